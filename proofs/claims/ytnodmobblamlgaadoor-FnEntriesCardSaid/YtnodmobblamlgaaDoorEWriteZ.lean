/- spec.Write: what it hands back is a file of the rows that the picture of numbers asks for. -/
import Derived.Test.YtnodmobblamlgaaDoorEShape
import Derived.Test.YtnodmobblamlgaaDoorEColors
import Derived.Test.YtnodmobblamlgaaDoorEPackedB
import Derived.Test.YtnodmobblamlgaaDoorEWriteH
import Derived.Test.YtnodmobblamlgaaDoorEBuildE
namespace Go.Proofs.YtnodmobblamlgaaDoor
open Go.RowKit Go.Proofs.YtnodmobblamlgaaDoor.PFnConfig Go.Proofs.YtnodmobblamlgaaDoorW.PrintWords Go.Proofs.YtnodmobblamlgaaDoorW.PrintLast Go.Proofs.YtnodmobblamlgaaDoorW.PrintMore
set_option linter.unusedVariables false
set_option linter.unusedSimpArgs false

theorem i3' : ∃ i, Tryd.prog.info? 3 = some i ∧ i.size = 1 := by
  obtain ⟨i, hi, h⟩ := Option.map_eq_some_iff.1 i3
  simp only [Prod.mk.injEq] at h
  exact ⟨i, hi, h.2.1⟩
/-- samples[a:b]. -/
theorem cut_i64 (A : Option Addr) (c n : Nat) (xs : List Int) (a b : Nat) (hl : xs.length = n) (hab : a ≤ b) (hb : b ≤ n) (hc : n ≤ c) :
    ∃ A' : Option Addr, (∀ W : World, (Instr.slice 28 (.slice A n c) (some (.int .i64 (a : Int))) (some (.int .i64 (b : Int))) none).run Tryd.prog W = .ok (.slice A' (b - a) (c - a)) W) ∧
      (∀ w, Kd.C (Kd.int .i64) w A n xs → Kd.C (Kd.int .i64) w A' (b - a) ((xs.take b).drop a)) := by
  subst hl
  obtain ⟨i0, hi0, hsz0⟩ := i3'
  obtain ⟨A', h1, h2, h3⟩ := print_mid_of (P := Tryd.prog) (Value.int .i64) (0 : Int) 28 3 .i64 .i64 Tryd.underlying28 hi0 hsz0 A c xs (a : Int) (b : Int) (by omega) (by omega) (by omega) hc
  have hl : ((xs.take b).drop a).length = b - a := by rw [List.length_drop, List.length_take]; omega
  simp only [Int.toNat_natCast, hl] at h1 h2
  exact ⟨A', h1, fun w h => Kd.C_of_reads (h1 := fun _ => rfl) (h2 w (Kd.reads_of_C (h1 := fun _ => rfl) h))⟩

/-- A sum's or a product's value, for the walk alone. -/
abbrev WrN (x : Int) (m : Nat) : Prop := ∀ [Inhabited Nat], wrap64 x = m
theorem WrN.mk {x : Int} {m : Nat} (h : wrap64 x = m) : WrN x m := fun {_} => h
theorem cut_places (j wide ch : Nat) (hj : j ≤ 40) (hw : wide ≤ 96) (hc : ch ≤ 4) :
    ∃ q1 a q2 q3 b : Nat, wrap64 ((j : Int) * wide) = q1 ∧ wrap64 ((q1 : Int) * ch) = a ∧ wrap64 ((j : Int) + 1) = q2 ∧ wrap64 ((q2 : Int) * wide) = q3 ∧ wrap64 ((q3 : Int) * ch) = b ∧ Aside0 (a = j * wide * ch ∧ b = (j + 1) * wide * ch) := by
  have h1 : j * wide ≤ 40 * 96 := Nat.mul_le_mul hj hw
  have h2 : j * wide * ch ≤ 40 * 96 * 4 := Nat.mul_le_mul h1 hc
  have h3 : (j + 1) * wide ≤ 41 * 96 := Nat.mul_le_mul (by omega) hw
  have h4 : (j + 1) * wide * ch ≤ 41 * 96 * 4 := Nat.mul_le_mul h3 hc
  exact ⟨_, _, _, _, _, w64mul j wide (by omega), w64mul (j * wide) ch (by omega), show _ = ((j + 1 : Nat) : Int) by rw [w64n (x := (j : Int) + 1) (by omega) (by omega)]; simp, w64mul (j + 1) wide (by omega), w64mul ((j + 1) * wide) ch (by omega), ⟨rfl, rfl⟩⟩
/-- A sample's place in a tile. -/
theorem tile_places (x y j wide high ch nss : Nat) (hx : x ≤ 96) (hy : y + j ≤ 200) (hw : wide ≤ 96) (hc : ch ≤ 4) (hin : y + j < high) (hn : nss = wide * high * ch) (hh : high ≤ 40) :
    ∃ m1 m2 m3 m4 : Nat, WrN ((x : Int) * ch) m1 ∧ WrN ((wide : Int) * ch) m2 ∧ WrN (((y : Int) + j) * wide) m3 ∧ WrN ((m3 : Int) * ch) m4 ∧ Aside0 (m1 ≤ 384 ∧ m4 ≤ 15360 ∧ m2 ≤ 384 ∧ m4 + m2 ≤ nss ∧ Aside0 (m1 = x * ch ∧ m2 = wide * ch)) := by
  have h1 : x * ch ≤ 96 * 4 := Nat.mul_le_mul hx hc
  have h2 : wide * ch ≤ 96 * 4 := Nat.mul_le_mul hw hc
  have h3 : (y + j) * wide ≤ 40 * 96 := Nat.mul_le_mul (by omega) hw
  have h4 : (y + j) * wide * ch ≤ 40 * 96 * 4 := Nat.mul_le_mul h3 hc
  refine ⟨x * ch, wide * ch, (y + j) * wide, (y + j) * wide * ch, WrN.mk (w64mul x ch (by omega)), WrN.mk (w64mul wide ch (by omega)), WrN.mk ?_, WrN.mk (w64mul ((y + j) * wide) ch (by omega)), ⟨by omega, by omega, by omega, ?_, ⟨rfl, rfl⟩⟩⟩
  · have := w64mul (y + j) wide (by omega)
    rwa [Int.natCast_add] at this
  · have e : (y + j) * wide * ch + wide * ch = (y + j + 1) * wide * ch := by rw [Nat.succ_mul (y + j), Nat.add_mul ((y + j) * wide)]
    rw [e, hn, Nat.mul_comm wide high]
    exact Nat.mul_le_mul (Nat.mul_le_mul hin (Nat.le_refl _)) (Nat.le_refl _)
/-- A row of samples. -/
theorem sample_cut (A : Option Addr) (c n : Nat) (xs : List Int) (j high wide ch a b : Nat) (hab : a = j * wide * ch ∧ b = (j + 1) * wide * ch) (hl : xs.length = n) (hn : n = wide * high * ch) (hj : j < high) (hw : wide ≤ 40) (hc4 : ch ≤ 4) (hc : n ≤ c) :
    ∃ (A' : Option Addr) (l c' : Nat), l ≤ 160 ∧ (0 < wide → 0 < ch → 0 < l) ∧ l ≤ c' ∧ (∀ W : World, (Instr.slice 28 (.slice A n c) (some (.int .i64 (a : Int))) (some (.int .i64 (b : Int))) none).run Tryd.prog W = .ok (.slice A' l c') W) ∧
      ∃ ys : List Int, ys.length = l ∧ (∀ w, Kd.C (Kd.int .i64) w A n xs → Kd.C (Kd.int .i64) w A' l ys) := by
  obtain ⟨rfl, rfl⟩ := hab
  have e1 : (j + 1) * wide * ch = j * wide * ch + wide * ch := by rw [Nat.succ_mul, Nat.add_mul]
  have e2 : (j + 1) * wide * ch ≤ n := by
    rw [hn, Nat.mul_comm wide high]
    exact Nat.mul_le_mul (Nat.mul_le_mul hj (Nat.le_refl _)) (Nat.le_refl _)
  have e3 : wide * ch ≤ 40 * 4 := Nat.mul_le_mul hw hc4
  obtain ⟨A', h1, h2⟩ := cut_i64 A c n xs (j * wide * ch) ((j + 1) * wide * ch) hl (by omega) e2 hc
  refine ⟨A', (j + 1) * wide * ch - j * wide * ch, c - j * wide * ch, by omega, fun h h' => by have := Nat.mul_pos h h'; omega, by omega, h1, (xs.take ((j + 1) * wide * ch)).drop (j * wide * ch), by rw [List.length_drop, List.length_take]; omega, h2⟩

/-- The box of the Tiff that Write works on. -/
abbrev boxOf (b0 : Bool) (wide high : Nat) (x3 x4 x5 x6 : Int) (b7 : Bool) (tw th rows : Nat) : Obj := .cells #[.bool b0, .int .i64 wide, .int .i64 high, .int .i64 x3, .int .i64 x4, .int .i64 x5, .int .i64 x6, .bool b7, .int .i64 tw, .int .i64 th, .int .i64 rows] 24 (0, 0)

set_option maxRecDepth 100000 in
set_option maxHeartbeats 60000000 in
/-- spec.Write of a shape that the set makes: a file of its rows. -/
theorem Write_any (b0 : Bool) (wide high : Nat) (x3 x4 x5 x6 : Int) (b7 : Bool) (tw th rows : Nat) (hS : Shp b0 wide high x3 x4 x5 x6 b7 tw th rows) (A B : Option Addr) (c d : Nat) (ch : Nat) (ss : List Int) (W : World) (hch : spec_Tiff_Channels.f b0 wide high x3 x4 x5 x6 b7 tw th rows = some (ch : Int)) (hch1 : 1 ≤ ch) (hch4 : ch ≤ 4)
    (ps : List S57) (hpal : Kd.C k57 W B 256 ps) (hpv : ∀ v ∈ cols ps, 0 ≤ v ∧ v < 65536) (hss : Kd.C (Kd.int .i64) W A (wide * high * ch) ss) (hsc : wide * high * ch ≤ c) :
    Calls Tryd.prog 6 #[.agg #[.bool b0, .int .i64 wide, .int .i64 high, .int .i64 x3, .int .i64 x4, .int .i64 x5, .int .i64 x6, .bool b7, .int .i64 tw, .int .i64 th, .int .i64 rows], .slice A (wide * high * ch : Nat) c, .slice B 256 d, .int .i64 1] W (Written W b0 wide high x3 x4 x5 x6 b7 tw th rows ch ps) := by
  have HC := Aside0.mk (fun w => spec_Tiff_Channels.calls _ _ _ _ _ _ _ _ _ _ _ _ w hch)
  have HSS := Aside0.mk hss
  have HPAL := Aside0.mk hpal
  have HPV := Aside0.mk hpv
  clear hpal hpv
  obtain ⟨nss, hnss⟩ : ∃ n, n = wide * high * ch := ⟨_, rfl⟩
  have HN := Aside0.mk hnss
  rw [← hnss] at HSS hsc ⊢
  clear hch hss hnss
  have HS := Aside0.mk hS
  clear hS
  go_enter Tryd.func6, Tryd.ntmps6
  go_upto_if 43 with (go_at_call 15; refine (HC.out _).mono ?_; rintro e w1 ⟨rfl, k1⟩; have hbx := Aside0.mk (blk_alloc (show w1.heap[W.heap.size]? = _ from (k1.block _ (by simp)).trans (heap_new_ W _)) (.cells #[] 26)); obtain ⟨c0, c1, c2, c3, c4, c5, c6, c7, c8, c9, c10⟩ := tiff_cells hbx.out; have K1 := Aside0.mk k1; clear k1)
  have HB2 : Aside0 (Below W.heap.size W (w1.alloc (.cells #[] 26))) := ⟨(((Below.refl _ _).alloc (Nat.le_refl _) _).trans (K1.out.mono (by simp))).alloc (by have := K1.out.size; simp at this; omega) _⟩
  have hrl := World.ownsRow_lit (base := W.heap.size) (e := 26) (size := 1) w1 #[] 0 (by have := K1.out.size; simp at this; omega) (by simp [maxLen]) (by simp)
  have HR0 : Aside0 ((Kd.slice 5 (Kd.int .u8)).R 26 (w1.alloc (.cells #[] 26)) W.heap.size (fun k => k ≠ W.heap.size) (.slice (some ⟨w1.heap.size, 0, none⟩) 0 0) []) :=
    ⟨⟨fun k hk => by have := K1.out.size; simp at this; have h2 : w1.heap.size = k := by simpa [Value.ownBlock] using hk
                     omega, [], hrl, Reps.none _ _⟩⟩
  clear hrl
  generalize w1.alloc (.cells #[] 26) = w2 at *
  obtain ⟨b43, h43⟩ : ∃ b43 : Bool, b43 = decide (0 < tw) := ⟨_, rfl⟩
  rw [← h43]
  have H43 := Aside0.mk h43
  clear h43
  go_cut [10] from 44 to 173 (fun v10 wx => ∃ ws : List (List Int), Aside0 (Kd.R (Kd.slice 5 (Kd.int .u8)) 26 wx W.heap.size (fun k => k ≠ W.heap.size) v10 ws) ∧ Aside0 (1 ≤ ws.length ∧ ws.length ≤ 40 ∧ ∀ y ∈ ws, y.length ≤ 300000) ∧ Aside0 (Below W.heap.size W wx) ∧ Aside0 (wx.heap[W.heap.size]? = some (boxOf b0 wide high x3 x4 x5 x6 b7 tw th rows)))
  case first =>
    rcases HS.out.tiles with ⟨rfl, rfl⟩ | ht
    ·
      as_aux_lemma =>
      obtain rfl : b43 = false := H43.out.trans (decide_eq_false (by omega))
      have hw40 : wide ≤ 40 := HS.out.w3 rfl
      have hh40 := HS.out.h2
      have hr1 := HS.out.r1
      have hr2 := HS.out.r2
      go_wp2
      go_loopg [10, 18, 19, 20] high (fun kq v10 v18 v19 v20 wr => ∃ (y : Nat) (ws : List (List Int)), v18 = .int .i64 y ∧ Aside0 (kq = high - y ∧ y ≤ high + rows) ∧ Aside0 ((Kd.slice 5 (Kd.int .u8)).R 26 wr W.heap.size (fun k => k ≠ W.heap.size) v10 ws) ∧ Aside0 (ws.length ≤ y ∧ (y ≤ high ∨ ws.length ≤ high) ∧ (0 < y → 0 < ws.length) ∧ ∀ y ∈ ws, y.length ≤ 300000) ∧ Aside0 (Below W.heap.size W wr) ∧ Aside0 (wr.heap[W.heap.size]? = some (boxOf b0 wide high x3 x4 x5 x6 b7 0 0 rows)))
      case atStart => exact ⟨0, [], rfl, ⟨rfl, by omega⟩, HR0, ⟨by simp, by simp, by simp, by simp⟩, HB2, hbx⟩
      case round =>
        obtain ⟨y, ws, rfl, HK, HR, HL, HB, HG⟩ := hrel
        obtain ⟨d0, d1, d2, d3, d4, d5, d6, d7, d8, d9, d10⟩ := tiff_cells HG.out
        obtain ⟨A10, c10', rfl, _, _⟩ := Kd.R_reads HR.out
        rcases Nat.lt_or_ge y high with hy | hy
        · have HRz : Aside0 (Kd.R (Kd.int .u8) 5 (wr.alloc (.cells #[] 5)) wr.heap.size (fun _ => True) (.slice (some ⟨wr.heap.size, 0, none⟩) 0 0) []) := ⟨R_new wr wr.heap.size [] (Nat.le_refl _) (by simp)⟩
          have HBz := Aside0.mk ((Below.refl wr.heap.size wr).alloc (Nat.le_refl _) (.cells #[] 5))
          go_wp2
          clear c0 c1 c2 c3 c4 c5 c6 c7 c8 c9 c10 d0 d1 d2 d3 d4 d5 d6 d7 d8 d9 d10
          obtain ⟨wo, rfl⟩ : ∃ wo : World, wo = wr := ⟨_, rfl⟩
          obtain ⟨go, rfl⟩ : ∃ go : Nat, go = gk := ⟨_, rfl⟩
          go_loopg [19, 20] (high - y) (fun kq v19 v20 wr => ∃ (j : Nat) (zs : List Int), v20 = .int .i64 j ∧ Aside0 (kq = high - j ∧ y ≤ j ∧ j ≤ high ∧ j ≤ y + rows) ∧ Aside0 (Kd.R (Kd.int .u8) 5 wr wo.heap.size (fun _ => True) v19 zs) ∧ Aside0 (zs.length ≤ (j - y) * 320 ∧ (y < j → 0 < zs.length)) ∧ Aside0 (Below wo.heap.size wo wr))
          case atStart => exact ⟨y, [], rfl, ⟨rfl, by omega, by omega, by omega⟩, HRz, ⟨by simp, by omega⟩, HBz⟩
          case round =>
            obtain ⟨j, zs, rfl, HJ, HRj, HLj, HBj⟩ := hrel
            have HGj := Aside0.mk ((HBj.out.block _ (blk_lt HG.out)).trans HG.out)
            obtain ⟨d0, d1, d2, d3, d4, d5, d6, d7, d8, d9, d10⟩ := tiff_cells HGj.out
            have hj1 := HJ.out.2.1
            have hj2 := HJ.out.2.2.1
            have hj3 := HJ.out.2.2.2
            by_cases hjm : j < high ∧ j < y + rows
            · obtain ⟨hjm1, hjm2⟩ := hjm
              go_upto_region 31 with (fail)
              go_cut [145] from 137 to 166 (fun v wx => v = .bool true ∧ wr = wx)
              case first =>
                by_cases hm : high ≤ y + rows
                · go_wp2_with (fail)
                  go_meet
                  exact ⟨by first | rfl | exact congrArg Value.bool (decide_eq_true (by omega)), rfl⟩
                · go_wp2_with (fail)
                  go_meet
                  exact ⟨by first | rfl | exact congrArg Value.bool (decide_eq_true (by omega)), rfl⟩
              case rest =>
                obtain ⟨rfl, rfl⟩ := hcut
                go_upto_region 33 with (fail)
                have hb1 : wr.drew.heap[W.heap.size]? = some (.cells #[.bool b0, .int .i64 wide, .int .i64 high, .int .i64 x3, .int .i64 x4, .int .i64 x5, .int .i64 x6, .bool b7, .int .i64 (0 : Nat), .int .i64 (0 : Nat), .int .i64 rows] 24 (0, 0)) := HGj.out
                refine start_ (n := 20) (S := fun w' => w'.heap[W.heap.size]? = some (.cells #[.bool b0, .int .i64 wide, .int .i64 high, .int .i64 x3, .int .i64 x4, .int .i64 x5, .int .i64 x6, .bool b7, .int .i64 (0 : Nat), .int .i64 (0 : Nat), .int .i64 rows] 24 (0, 0))) (ds := []) #[false, false, false, false, false, false, false, false, false, false, false, false, false, false, false, false, false, false, false, false] (by kernel_rfl) rfl rfl hb1 (fun hHeld => ?_)
                refine pure_ (i := 0) (N := some 148) (v := ?_) (a' := ?_) #[true, false, false, false, false, false, false, false, false, false, false, false, false, false, false, false, false, false, false, false] rfl rfl (by kernel_rfl) (fun _ _ _ h => h) (Or.inl ⟨by rfl, ?_⟩) ?_ ?_
                rotate_left
                · intro w'
                  go_simp
                  with_reducible rfl
                rotate_left
                · simp only [Act.put, List.setIfInBounds_toArray, List.set_cons_zero, List.set_cons_succ, i64_w, i32_w]
                  rfl
                refine take_ (i := 1) (N := some 149) (v := ?_) (a' := ?_) #[true, true, false, false, false, false, false, false, false, false, false, false, false, false, false, false, false, false, false, false] rfl rfl (by kernel_rfl) (fun _ _ _ h => h) (Or.inl ⟨by rfl, ?_⟩) hHeld ?_ ?_
                rotate_left
                · rintro w' s2
                  obtain ⟨c0, c1, c2, c3, c4, c5, c6, c7, c8, c9, c10⟩ := tiff_cells s2
                  go_simp
                  with_reducible rfl
                rotate_left
                · simp only [Act.put, List.setIfInBounds_toArray, List.set_cons_zero, List.set_cons_succ, i64_w, i32_w]
                  rfl
                refine pure_ (i := 2) (N := some 150) (v := ?_) (a' := ?_) #[true, true, true, false, false, false, false, false, false, false, false, false, false, false, false, false, false, false, false, false] rfl rfl (by kernel_rfl) (fun _ _ _ h => h) (Or.inl ⟨by rfl, ?_⟩) ?_ ?_
                rotate_left
                · intro w'
                  go_simp
                  with_reducible rfl
                rotate_left
                · simp only [Act.put, List.setIfInBounds_toArray, List.set_cons_zero, List.set_cons_succ, i64_w, i32_w]
                  rfl
                refine pure_ (i := 3) (N := some 151) (v := ?_) (a' := ?_) #[true, true, true, true, false, false, false, false, false, false, false, false, false, false, false, false, false, false, false, false] rfl rfl (by kernel_rfl) (fun _ _ _ h => h) (Or.inl ⟨by rfl, ?_⟩) ?_ ?_
                rotate_left
                · intro w'
                  go_simp
                  with_reducible rfl
                rotate_left
                · simp only [Act.put, List.setIfInBounds_toArray, List.set_cons_zero, List.set_cons_succ, i64_w, i32_w]
                  rfl
                refine pure_ (i := 4) (N := some 152) (v := ?_) (a' := ?_) #[true, true, true, true, true, false, false, false, false, false, false, false, false, false, false, false, false, false, false, false] rfl rfl (by kernel_rfl) (fun _ _ _ h => h) (Or.inl ⟨by rfl, ?_⟩) ?_ ?_
                rotate_left
                · intro w'
                  go_simp
                  with_reducible rfl
                rotate_left
                · simp only [Act.put, List.setIfInBounds_toArray, List.set_cons_zero, List.set_cons_succ, i64_w, i32_w]
                  rfl
                refine take_ (i := 5) (N := some 153) (v := ?_) (a' := ?_) #[true, true, true, true, true, true, false, false, false, false, false, false, false, false, false, false, false, false, false, false] rfl rfl (by kernel_rfl) (fun _ _ _ h => h) (Or.inl ⟨by rfl, ?_⟩) hHeld ?_ ?_
                rotate_left
                · rintro w' s2
                  obtain ⟨c0, c1, c2, c3, c4, c5, c6, c7, c8, c9, c10⟩ := tiff_cells s2
                  go_simp
                  with_reducible rfl
                rotate_left
                · simp only [Act.put, List.setIfInBounds_toArray, List.set_cons_zero, List.set_cons_succ, i64_w, i32_w]
                  rfl
                refine pure_ (i := 6) (N := some 154) (v := ?_) (a' := ?_) #[true, true, true, true, true, true, true, false, false, false, false, false, false, false, false, false, false, false, false, false] rfl rfl (by kernel_rfl) (fun _ _ _ h => h) (Or.inl ⟨by rfl, ?_⟩) ?_ ?_
                rotate_left
                · intro w'
                  go_simp
                  with_reducible rfl
                rotate_left
                · simp only [Act.put, List.setIfInBounds_toArray, List.set_cons_zero, List.set_cons_succ, i64_w, i32_w]
                  rfl
                refine pure_ (i := 7) (N := some 155) (v := ?_) (a' := ?_) #[true, true, true, true, true, true, true, true, false, false, false, false, false, false, false, false, false, false, false, false] rfl rfl (by kernel_rfl) (fun _ _ _ h => h) (Or.inl ⟨by rfl, ?_⟩) ?_ ?_
                rotate_left
                · intro w'
                  go_simp
                  with_reducible rfl
                rotate_left
                · simp only [Act.put, List.setIfInBounds_toArray, List.set_cons_zero, List.set_cons_succ, i64_w, i32_w]
                  rfl
                refine pure_ (i := 8) (N := some 156) (v := ?_) (a' := ?_) #[true, true, true, true, true, true, true, true, true, false, false, false, false, false, false, false, false, false, false, false] rfl rfl (by kernel_rfl) (fun _ _ _ h => h) (Or.inl ⟨by rfl, ?_⟩) ?_ ?_
                rotate_left
                · intro w'
                  go_simp
                  with_reducible rfl
                rotate_left
                · simp only [Act.put, List.setIfInBounds_toArray, List.set_cons_zero, List.set_cons_succ, i64_w, i32_w]
                  rfl
                refine pure_ (i := 9) (N := some 157) (v := ?_) (a' := ?_) #[true, true, true, true, true, true, true, true, true, true, false, false, false, false, false, false, false, false, false, false] rfl rfl (by kernel_rfl) (fun _ _ _ h => h) (Or.inl ⟨by rfl, ?_⟩) ?_ ?_
                rotate_left
                · intro w'
                  go_simp
                  with_reducible rfl
                rotate_left
                · simp only [Act.put, List.setIfInBounds_toArray, List.set_cons_zero, List.set_cons_succ, i64_w, i32_w]
                  rfl
                refine pure_ (i := 10) (N := some 158) (v := ?_) (a' := ?_) #[true, true, true, true, true, true, true, true, true, true, true, false, false, false, false, false, false, false, false, false] rfl rfl (by kernel_rfl) (fun _ _ _ h => h) (Or.inl ⟨by rfl, ?_⟩) ?_ ?_
                rotate_left
                · intro w'
                  go_simp
                  with_reducible rfl
                rotate_left
                · simp only [Act.put, List.setIfInBounds_toArray, List.set_cons_zero, List.set_cons_succ, i64_w, i32_w]
                  rfl
                refine pure_ (i := 11) (N := some 159) (v := ?_) (a' := ?_) #[true, true, true, true, true, true, true, true, true, true, true, true, false, false, false, false, false, false, false, false] rfl rfl (by kernel_rfl) (fun _ _ _ h => h) (Or.inl ⟨by rfl, ?_⟩) ?_ ?_
                rotate_left
                · intro w'
                  go_simp
                  with_reducible rfl
                rotate_left
                · simp only [Act.put, List.setIfInBounds_toArray, List.set_cons_zero, List.set_cons_succ, i64_w, i32_w]
                  rfl
                refine take_ (i := 12) (N := some 160) (v := ?_) (a' := ?_) #[true, true, true, true, true, true, true, true, true, true, true, true, true, false, false, false, false, false, false, false] rfl rfl (by kernel_rfl) (fun _ _ _ h => h) (Or.inl ⟨by rfl, ?_⟩) hHeld ?_ ?_
                rotate_left
                · rintro w' s2
                  obtain ⟨c0, c1, c2, c3, c4, c5, c6, c7, c8, c9, c10⟩ := tiff_cells s2
                  go_simp
                  with_reducible rfl
                rotate_left
                · simp only [Act.put, List.setIfInBounds_toArray, List.set_cons_zero, List.set_cons_succ, i64_w, i32_w]
                  rfl
                refine pure_ (i := 13) (N := some 161) (v := ?_) (a' := ?_) #[true, true, true, true, true, true, true, true, true, true, true, true, true, true, false, false, false, false, false, false] rfl rfl (by kernel_rfl) (fun _ _ _ h => h) (Or.inl ⟨by rfl, ?_⟩) ?_ ?_
                rotate_left
                · intro w'
                  go_simp
                  with_reducible rfl
                rotate_left
                · simp only [Act.put, List.setIfInBounds_toArray, List.set_cons_zero, List.set_cons_succ, i64_w, i32_w]
                  rfl
                refine pure_ (i := 14) (N := some 162) (v := ?_) (a' := ?_) #[true, true, true, true, true, true, true, true, true, true, true, true, true, true, true, false, false, false, false, false] rfl rfl (by kernel_rfl) (fun _ _ _ h => h) (Or.inl ⟨by rfl, ?_⟩) ?_ ?_
                rotate_left
                · intro w'
                  go_simp
                  with_reducible rfl
                rotate_left
                · simp only [Act.put, List.setIfInBounds_toArray, List.set_cons_zero, List.set_cons_succ, i64_w, i32_w]
                  rfl
                refine pure_ (i := 15) (N := some 163) (v := ?_) (a' := ?_) #[true, true, true, true, true, true, true, true, true, true, true, true, true, true, true, true, false, false, false, false] rfl rfl (by kernel_rfl) (fun _ _ _ h => h) (Or.inl ⟨by rfl, ?_⟩) ?_ ?_
                rotate_left
                · intro w'
                  go_simp
                  with_reducible rfl
                rotate_left
                · simp only [Act.put, List.setIfInBounds_toArray, List.set_cons_zero, List.set_cons_succ, i64_w, i32_w]
                  rfl
                obtain ⟨q1, qa, q2, q3, qb, ea, eb, ec, ed, ee, HAB⟩ := cut_places j wide ch (by omega) (by omega) hch4
                rw [ea, eb, ec, ed, ee]
                clear ea eb ec ed ee
                obtain ⟨AR, lr, cr, hlr, hlr0, hlc, hRun, ys, hys, hC⟩ := sample_cut A c nss ss j high wide ch qa qb HAB.out (Kd.C_len HSS.out) HN.out hjm1 (by omega) hch4 hsc
                have HCR := Aside0.mk (Kd.C_below (hC W HSS.out) (HB.out.trans ((HBj.out.trans ((Below.refl _ wr).drew)).mono HB.out.size)))
                clear hC
                refine pure_ (i := 16) (N := some 164) (v := ?_) (a' := ?_) #[true, true, true, true, true, true, true, true, true, true, true, true, true, true, true, true, true, false, false, false] rfl rfl (by kernel_rfl) (fun _ _ _ h => h) (Or.inl ⟨by rfl, ?_⟩) ?_ ?_
                rotate_left
                · intro w'
                  go_simp
                  with_reducible rfl
                rotate_left
                · simp only [Act.put, List.setIfInBounds_toArray, List.set_cons_zero, List.set_cons_succ, i64_w, i32_w]
                  rfl
                subst hys
                obtain ⟨kr, rr, hrow, hrl, hrp⟩ := rowOf_any b0 wide high x3 x4 x5 x6 b7 (0 : Nat) (0 : Nat) rows ys HS.out.depth (by omega)
                refine one_ (i := 17) (N := some 165) #[true, true, true, true, true, true, true, true, true, true, true, true, true, true, true, true, true, true, false, false] rfl rfl (by kernel_rfl) (by decide) (fun K hK => ?_)
                refine goes_ Tryd.func16 (by kernel_rfl) rfl #[.agg #[.bool b0, .int .i64 wide, .int .i64 high, .int .i64 x3, .int .i64 x4, .int .i64 x5, .int .i64 x6, .bool b7, .int .i64 (0 : Nat), .int .i64 (0 : Nat), .int .i64 rows], .slice AR ys.length cr] (by rfl) rfl rfl (by simp [Act.eval]) ?_
                refine (spec_Tiff_rowOf.calls kr _ _ _ _ _ _ _ _ _ _ _ AR cr ys rr wr.drew HCR.out hlc hrow).mono ?_
                rintro e w3 ⟨v3, rfl, k1, k2⟩
                refine ⟨_, rfl, ?_⟩
                obtain ⟨A3, c3', rfl, hc3, k3⟩ := Kd.R_reads k1
                have K3 := Aside0.mk k3
                have K2 := Aside0.mk k2
                have HR3 := Aside0.mk (Kd.R_below (Kd.R_step HRj.out (w1 := wr.drew) (fun _ _ _ => rfl)) k2)
                have HB3 := Aside0.mk ((HBj.out.drew).trans (k2.mono HBj.out.size))
                refine hK.out _ _ ((k2.block _ (blk_lt hHeld)).trans hHeld) (fun hHeld3 => ?_)
                clear hK K k1 k2 k3
                refine norm_ (a' := ?_) ?_ ?_
                rotate_left
                · show Act.put _ (some 165) _ = _
                  simp only [Act.put, List.setIfInBounds_toArray, List.set_cons_zero, List.set_cons_succ, i64_w, i32_w]
                  rfl
                refine one_ (i := 18) (N := some 166) #[true, true, true, true, true, true, true, true, true, true, true, true, true, true, true, true, true, true, true, false] rfl rfl (by kernel_rfl) (by decide) (fun K hK => ?_)
                refine Kd.R_append_rows_step (Kd.int .u8) (w0 := wo) wo.heap.size (by rfl) (.tmp 148) (.tmp 165) 26 5 (.int .u8 0) 1 rfl Tryd.underlying26 i5 rfl (by decide) (by omega) _ zs rr _ _ _ (fun _ => True) (fun _ => False) rfl rfl HR3.out K3.out (fun _ _ h => h) (fun _ h => h.elim) (fun k hk => trivial) HB3.out HB3.out.size (by have := HLj.out.1; omega) ?_
                intro v6 w6 ho hb6 hg6 hat
                have HO := Aside0.mk ho
                have HB6 := Aside0.mk hb6
                have hbx6 := (hg6.block _ (blk_lt hHeld3) (fun e => by have := Kd.R_base HR3.out _ e.symm; have := blk_lt HG.out; omega)).trans hHeld3
                refine hK.out _ _ hbx6 (fun hHeld6 => ?_)
                clear hK K hHeld hHeld3 hbx6 ho hb6 hg6 hat
                refine norm_ (a' := ?_) ?_ ?_
                rotate_left
                · show Act.put _ (some 166) _ = _
                  simp only [Act.put, List.setIfInBounds_toArray, List.set_cons_zero, List.set_cons_succ, i64_w, i32_w]
                  rfl
                refine pure_ (i := 19) (N := some 19) (v := ?_) (a' := ?_) #[true, true, true, true, true, true, true, true, true, true, true, true, true, true, true, true, true, true, true, true] rfl rfl (by kernel_rfl) (fun _ _ _ h => h) (Or.inl ⟨by rfl, ?_⟩) ?_ ?_
                rotate_left
                · intro w'
                  go_simp
                  with_reducible rfl
                rotate_left
                · simp only [Act.put, List.setIfInBounds_toArray, List.set_cons_zero, List.set_cons_succ, i64_w, i32_w]
                  rfl
                refine done_ (by kernel_rfl) ?_
                go_wp2
                go_roundg (high - (j + 1))
                case measure => have := HJ.out; omega
                case rel => exact ⟨j + 1, zs ++ rr, by go_num, ⟨rfl, by omega⟩, HO, ⟨by have := HLj.out.1; rw [List.length_append, show (j + 1 - y) * 320 = (j - y) * 320 + 320 by omega]; omega, fun _ => by rw [List.length_append]; have := hrp (hlr0 HS.out.w1 hch1); omega⟩, HB6⟩
            ·
              go_upto_region 31 with (fail)
              go_cut [145] from 137 to 166 (fun v wx => v = .bool false ∧ wr = wx)
              case first =>
                by_cases hm : high ≤ y + rows
                · have hje : ¬ (j < high) := by omega
                  go_wp2_with (fail)
                  go_meet
                  exact ⟨by first | rfl | exact congrArg Value.bool (decide_eq_false (by omega)), rfl⟩
                · have hje : ¬ (j < y + rows) := by omega
                  go_wp2_with (fail)
                  go_meet
                  exact ⟨by first | rfl | exact congrArg Value.bool (decide_eq_false (by omega)), rfl⟩
              case rest =>
                obtain ⟨rfl, rfl⟩ := hcut
                obtain ⟨A13, c13, rfl, hc13, hC13⟩ := Kd.R_reads HRj.out
                have H17 := Aside0.mk (packed_own b0 wide high x3 x4 x5 x6 b7 0 0 rows A13 c13 zs wr hC13 hc13 wo.heap.size HBj.out.size HRj.out (by have := HLj.out.1; omega) (HLj.out.2 (by omega)) HS.out.packing)
                clear hC13
                have HOKP : Aside0 (∀ k, wo.heap.size ≤ k → k ≠ W.heap.size ∧ some k ≠ (Value.slice A10 ws.length c10').ownBlock) := ⟨fun k hk => ⟨by have := blk_lt HG.out; omega, fun e => by obtain ⟨inner, ho⟩ := Kd.R_own HR.out; have := own_lt ho k e.symm; omega⟩⟩
                go_upto_region 34 with (fail)
                go_wp2_with (first | (go_at_call 17; go_loud (refine H17.out.mono ?_); rintro e w5 ⟨v5, ys5, rfl, k1, k2, k3⟩; obtain ⟨A5, c5, rfl, _, _⟩ := Kd.R_reads k1; have KB := Aside0.mk k3; have HR5 := Aside0.mk (Kd.R_below HR.out (HBj.out.trans (k3.mono HBj.out.size))); have HM5 : Aside0 ((Kd.slice 5 (Kd.int .u8)).M w5 W.heap.size (fun k => wo.heap.size ≤ k) ys5 [.slice A5 ys5.length c5]) := ⟨⟨_, rfl, Kd.R_lower (Kd.R_mono (Kd.R_bound k1) (fun k hk => hk.2.1)) HB.out.size⟩⟩; have HW5 : Aside0 (Below W.heap.size W w5) := ⟨HB.out.trans ((HBj.out.trans (k3.mono HBj.out.size)).mono HB.out.size)⟩; have HG5 := Aside0.mk ((k3.block _ (blk_lt HGj.out)).trans HGj.out); clear k1 k3) | ((with_reducible refine gate_builtin (b := .append) (xs := #[.tmp 167, .tmp 172]) rfl ?_); at_builtin; go_loud (refine Kd.R_append (Kd.slice 5 (Kd.int .u8)) (w0 := W) W.heap.size rfl (.tmp 167) (.tmp 172) 48 26 (.slice none 0 0) 24 rfl Tryd.underlying48 i26 rfl (by decide) (by omega) _ ws ys5 [.slice A5 ys5.length c5] (fun k => k ≠ W.heap.size) (fun k => wo.heap.size ≤ k) rfl rfl HM5.out HOKP.out (fun k hk => by have := blk_lt HG5.out; omega) HR5.out HW5.out HW5.out.size (by have := HL.out.1; omega) ?_); intro v1 w6 ho hb1 hg1 hat; have HO := Aside0.mk ho; have HB6 := Aside0.mk hb1; have HG6 := Aside0.mk ((hg1.block W.heap.size (blk_lt HG5.out) (fun e => (HR5.out.1 _ e.symm) rfl)).trans HG5.out); obtain ⟨_, _, _, _, _, _, _, _, _, _, e10⟩ := tiff_cells HG6.out; clear ho hb1 hg1 hat))
                go_roundg (high - (y + rows))
                case measure => have := HK.out; omega
                case rel => exact ⟨y + rows, ws ++ [ys5], by go_num, ⟨rfl, by omega⟩, HO, ⟨by have := HL.out.1; simp; omega, by have := HL.out.1; simp; omega, by simp, by
                  have := HL.out.2.2.2
                  intro y' hy'
                  rcases List.mem_append.1 hy' with h | h
                  · exact this y' h
                  · rw [List.mem_singleton.1 h]; omega⟩, HB6, HG6⟩
        · have hyd : decide (y < high) = false := decide_eq_false (by omega)
          go_wp2
          go_meet
          exact ⟨ws, HR, ⟨HL.out.2.2.1 (by have := HS.out.h1; omega), by have := HL.out.2.1; have := HL.out.1; omega, HL.out.2.2.2⟩, HB, HG⟩
    ·
      as_aux_lemma =>
      have hh40 := HS.out.h2
      have hw96 := HS.out.w2
      have htw : tw = 16 ∨ tw = 32 := ht.1
      have hth : th = 16 ∨ th = 32 := ht.2
      have hfit : wide ≤ 3 * tw := by have := HS.out.fits (by omega); omega
      have htw1 : 16 ≤ tw := by omega
      have htw2 : tw ≤ 32 := by omega
      have hth1 : 16 ≤ th := by omega
      have hth2 : th ≤ 32 := by omega
      clear ht htw hth
      have hnc1 : 16 * 1 ≤ tw * ch := Nat.mul_le_mul htw1 hch1
      have hnc2 : tw * ch ≤ 32 * 4 := Nat.mul_le_mul htw2 hch4
      obtain ⟨n4, hn4⟩ : ∃ n4, n4 = tw * ch := ⟨_, rfl⟩
      have WN : Aside0 (wrap64 ((tw : Int) * ch) = n4) := ⟨by rw [hn4]; exact w64mul tw ch (by omega)⟩
      rw [← hn4] at hnc1 hnc2
      have HN4 := Aside0.mk hn4
      clear hn4
      obtain rfl : b43 = true := H43.out.trans (decide_eq_true (by omega))
      go_wp2
      go_loopg [10, 11] 3 (fun kq v10 v11 wr => ∃ (p y : Nat) (ws : List (List Int)), v11 = .int .i64 y ∧ Aside0 (kq = 3 - p ∧ p ≤ 3 ∧ y = th * p) ∧ Aside0 ((Kd.slice 5 (Kd.int .u8)).R 26 wr W.heap.size (fun k => k ≠ W.heap.size) v10 ws) ∧ Aside0 (ws.length ≤ 3 * p ∧ (0 < p → 0 < ws.length) ∧ ∀ y ∈ ws, y.length ≤ 300000) ∧ Aside0 (Below W.heap.size W wr) ∧ Aside0 (wr.heap[W.heap.size]? = some (boxOf b0 wide high x3 x4 x5 x6 b7 tw th rows)))
      case atStart => exact ⟨0, 0, [], rfl, ⟨rfl, by omega, by simp⟩, HR0, ⟨by simp, by simp, by simp⟩, HB2, hbx⟩
      case round =>
        obtain ⟨p, y, ws, rfl, HK, HR, HL, HB, HG⟩ := hrel
        obtain ⟨d0, d1, d2, d3, d4, d5, d6, d7, d8, d9, d10⟩ := tiff_cells HG.out
        obtain ⟨A10, c10', rfl, _, _⟩ := Kd.R_reads HR.out
        have hy100 : y ≤ 32 * 3 := by rw [HK.out.2.2]; exact Nat.mul_le_mul hth2 HK.out.2.1
        rcases Nat.lt_or_ge y high with hy | hy
        · have hp2 : p ≤ 2 := by
            rcases Nat.lt_or_ge p 3 with h | h
            · omega
            · have h3 := Nat.mul_le_mul hth1 h; have h4 := HK.out.2.2; rw [← h4] at h3; omega
          go_wp2
          obtain ⟨wa, rfl⟩ : ∃ wa : World, wa = wr := ⟨_, rfl⟩
          obtain ⟨ga, rfl⟩ : ∃ ga : Nat, ga = gk := ⟨_, rfl⟩
          clear c0 c1 c2 c3 c4 c5 c6 c7 c8 c9 c10 d0 d1 d2 d3 d4 d5 d6 d7 d8 d9 d10
          go_loopg [10, 12] 3 (fun kq v10 v12 wr => ∃ (q x : Nat) (ws : List (List Int)), v12 = .int .i64 x ∧ Aside0 (kq = 3 - q ∧ q ≤ 3 ∧ x = tw * q) ∧ Aside0 ((Kd.slice 5 (Kd.int .u8)).R 26 wr W.heap.size (fun k => k ≠ W.heap.size) v10 ws) ∧ Aside0 (ws.length ≤ 3 * p + q ∧ (0 < p + q → 0 < ws.length) ∧ ∀ y ∈ ws, y.length ≤ 300000) ∧ Aside0 (Below W.heap.size W wr) ∧ Aside0 (wr.heap[W.heap.size]? = some (boxOf b0 wide high x3 x4 x5 x6 b7 tw th rows)))
          case atStart => exact ⟨0, 0, ws, rfl, ⟨rfl, by omega, by simp⟩, HR, ⟨HL.out.1, fun h => HL.out.2.1 (by omega), HL.out.2.2⟩, HB, HG⟩
          case round =>
            clear HR HL HB HG
            obtain ⟨q, x, ws, rfl, HK2, HR, HL, HB, HG⟩ := hrel
            obtain ⟨d0, d1, d2, d3, d4, d5, d6, d7, d8, d9, d10⟩ := tiff_cells HG.out
            obtain ⟨A10, c10', rfl, _, _⟩ := Kd.R_reads HR.out
            have hx100 : x ≤ 32 * 3 := by rw [HK2.out.2.2]; exact Nat.mul_le_mul htw2 HK2.out.2.1
            rcases Nat.lt_or_ge x wide with hx | hx
            · have hq2 : q ≤ 2 := by
                rcases Nat.lt_or_ge q 3 with h | h
                · omega
                · have h3 := Nat.mul_le_mul (Nat.le_refl tw) h; have h4 := HK2.out.2.2; rw [← h4] at h3; omega
              have HRz : Aside0 (Kd.R (Kd.int .u8) 5 (wr.alloc (.cells #[] 5)) wr.heap.size (fun _ => True) (.slice (some ⟨wr.heap.size, 0, none⟩) 0 0) []) := ⟨R_new wr wr.heap.size [] (Nat.le_refl _) (by simp)⟩
              have HBz := Aside0.mk ((Below.refl wr.heap.size wr).alloc (Nat.le_refl _) (.cells #[] 5))
              have HGz := Aside0.mk (blk_alloc HG.out (.cells #[] 5))
              obtain ⟨_, _, _, _, _, _, _, _, _, e9, _⟩ := tiff_cells HGz.out
              go_wp2
              clear d0 d1 d2 d3 d4 d5 d6 d7 d8 d9 d10 e9 HGz
              obtain ⟨wo, rfl⟩ : ∃ wo : World, wo = wr := ⟨_, rfl⟩
              obtain ⟨gb, rfl⟩ : ∃ gb : Nat, gb = gk := ⟨_, rfl⟩
              go_loopg [13, 63] th (fun kq v13 v63 wr => ∃ (j : Nat) (zs : List Int), v63 = .int .i64 j ∧ Aside0 (kq = th - j ∧ j ≤ th) ∧ Aside0 (Kd.R (Kd.int .u8) 5 wr wo.heap.size (fun _ => True) v13 zs) ∧ Aside0 (zs.length ≤ j * 256 ∧ (0 < j → 0 < zs.length)) ∧ Aside0 (Below wo.heap.size wo wr))
              case atStart => exact ⟨0, [], rfl, ⟨rfl, by omega⟩, HRz, ⟨by simp, by omega⟩, HBz⟩
              case round =>
                clear HRz HBz
                obtain ⟨j, zs, rfl, HJ, HRj, HLj, HBj⟩ := hrel
                have HGj := Aside0.mk ((HBj.out.block _ (blk_lt HG.out)).trans HG.out)
                obtain ⟨d0, d1, d2, d3, d4, d5, d6, d7, d8, d9, d10⟩ := tiff_cells HGj.out
                have hj1 := HJ.out.2
                rcases Nat.lt_or_ge j th with hjm | hjm
                ·
                  have HRy : Aside0 (Kd.R (Kd.int .i64) 3 (wr.alloc (.cells #[] 3)) wr.heap.size (fun _ => True) (.slice (some ⟨wr.heap.size, 0, none⟩) 0 0) []) := ⟨Kd.R_mono (R_newI wr wr.heap.size [] (Nat.le_refl _) (by simp)) (fun _ _ => trivial)⟩
                  have HBy := Aside0.mk ((Below.refl wr.heap.size wr).alloc (Nat.le_refl _) (.cells #[] 3))
                  have HG9 := Aside0.mk (blk_alloc HGj.out (.cells #[] 3))
                  obtain ⟨e0, e1, e2, e3, e4, e5, e6, e7, e8, e9, e10⟩ := tiff_cells HG9.out
                  go_wp2
                  rw [WN.out]
                  clear d0 d1 d2 d3 d4 d5 d6 d7 d8 d9 d10 e0 e1 e2 e3 e4 e5 e6 e7 e8 e9 e10
                  obtain ⟨wb, rfl⟩ : ∃ wb : World, wb = wr := ⟨_, rfl⟩
                  obtain ⟨gc, rfl⟩ : ∃ gc : Nat, gc = gk := ⟨_, rfl⟩
                  go_loopg [15, 71] n4 (fun kq v15 v71 wr => ∃ (i : Nat) (ys : List Int), v71 = .int .i64 i ∧ Aside0 (kq = n4 - i ∧ i ≤ n4) ∧ Aside0 (Kd.R (Kd.int .i64) 3 wr wb.heap.size (fun _ => True) v15 ys) ∧ Aside0 (ys.length = i) ∧ Aside0 (Below wb.heap.size wb wr))
                  case atStart => exact ⟨0, [], rfl, ⟨rfl, by omega⟩, HRy, ⟨rfl⟩, HBy⟩
                  case round =>
                    clear HRy HBy HG9
                    obtain ⟨i, ys, rfl, HI, HRi, HLi, HBi⟩ := hrel
                    have HGi := Aside0.mk ((HBi.out.block _ (blk_lt HGj.out)).trans HGj.out)
                    obtain ⟨d0, d1, d2, d3, d4, d5, d6, d7, d8, d9, d10⟩ := tiff_cells HGi.out
                    have hi1 := HI.out.2
                    rcases Nat.lt_or_ge i n4 with him | him
                    ·
                      go_upto_region 19 with (fail)
                      go_cut [91] from 74 to 91 (fun v91 wx => ∃ t : Bool, v91 = .bool t ∧ Aside0 (t = true → y + j < high ∧ x * ch + i < wide * ch) ∧ wr = wx)
                      case first =>
                        by_cases hin : y + j < high
                        · obtain ⟨m1, m2, m3, m4, W1, W2, W3, W4, HM⟩ := tile_places x y j wide high ch nss (by omega) (by omega) (by omega) hch4 hin HN.out hh40
                          have hm1 := HM.out.1
                          have hm2 := HM.out.2.2.1
                          have HME := HM.out.2.2.2.2
                          by_cases hxi : m1 + i < m2
                          · have hd : decide ((m1 : Int) + i < m2) = true := decide_eq_true (by omega)
                            have HXI : Aside0 (x * ch + i < wide * ch) := ⟨by rw [← HME.out.1, ← HME.out.2]; exact hxi⟩
                            go_wp2_with (fail)
                            go_meet
                            exact ⟨true, rfl, ⟨fun _ => ⟨hin, HXI.out⟩⟩, rfl⟩
                          · have hd : decide ((m1 : Int) + i < m2) = false := decide_eq_false (by omega)
                            go_wp2_with (fail)
                            go_meet
                            exact ⟨false, rfl, ⟨fun h => by cases h⟩, rfl⟩
                        · have hd : decide ((y : Int) + j < high) = false := decide_eq_false (by omega)
                          go_wp2_with (fail)
                          go_meet
                          exact ⟨false, rfl, ⟨fun h => by cases h⟩, rfl⟩
                      case rest =>
                      obtain ⟨tt, rfl, HT, rfl⟩ := hcut
                      obtain ⟨wo4, rfl⟩ : ∃ wo4 : World, wo4 = wr := ⟨_, rfl⟩
                      go_upto_if 91 with (fail)
                      go_cut [17] from 92 to 108 (fun v17 wx => ∃ v : Int, v17 = .int .i64 v ∧ wo4 = wx)
                      case first =>
                        cases tt
                        · go_wp2_with (fail)
                          go_meet
                          exact ⟨_, rfl, rfl⟩
                        · obtain ⟨hin, hxi⟩ := HT.out rfl
                          obtain ⟨m1, m2, m3, m4, W1, W2, W3, W4, HM⟩ := tile_places x y j wide high ch nss (by omega) (by omega) (by omega) hch4 hin HN.out hh40
                          have hm1 := HM.out.1
                          have hm4 := HM.out.2.1
                          have hidx : m4 + m1 + i < nss := by have h1 := HM.out.2.2.2.1; have h2 := HM.out.2.2.2.2.out; rw [← h2.1, ← h2.2] at hxi; omega
                          have HXI := Aside0.mk hxi
                          clear hxi W2
                          obtain ⟨ad, rfl, hcell⟩ := Kd.at_int HSS.out ((m4 + m1 + i : Nat) : Int) (by omega) (by omega)
                          have hcw : wo4.cell? (ad.add (m4 + m1 + i)) = some (.int .i64 (rd ss ((m4 + m1 + i : Nat) : Int))) := by
                            rw [Int.toNat_natCast] at hcell
                            exact ((HB.out.trans ((HBj.out.trans (HBi.out.mono HBj.out.size)).mono HB.out.size)).cell (World.block_lt_of_cell? W _ hcell)).trans hcell
                          generalize rd ss ((m4 + m1 + i : Nat) : Int) = vv at hcw
                          clear hcell
                          go_wp2_with (fail)
                          go_meet
                          exact ⟨_, rfl, rfl⟩
                      case rest =>
                        obtain ⟨vv, rfl, rfl⟩ := hcut
                        obtain ⟨A15, c15, rfl, _, _⟩ := Kd.R_reads HRi.out
                        go_wp2_with ((with_reducible refine gate_builtin (b := .append) (xs := #[.tmp 109, .tmp 111]) rfl ?_); at_builtin; go_loud (refine Kd.R_append (Kd.int .i64) (w0 := wb) wb.heap.size rfl (.tmp 109) (.tmp 111) 28 3 (.int .i64 0) 8 rfl Tryd.underlying28 i3 rfl (by decide) (by omega) _ ys _ [_] (fun _ => True) (fun _ => False) rfl rfl rfl (fun _ hk => hk.elim) (fun k hk => trivial) HRi.out HBi.out HBi.out.size (by have := HLi.out; omega) ?_); intro v1 w1' ho hb1 hg1 hat; have HO := Aside0.mk ho; have HB1 := Aside0.mk hb1; clear ho hb1 hg1 hat)
                        go_roundg (n4 - (i + 1))
                        case measure => have := HI.out; omega
                        case rel => exact ⟨i + 1, _, by go_num, ⟨rfl, by omega⟩, HO, ⟨by have := HLi.out; simp; omega⟩, HB1⟩
                    ·
                      obtain rfl : n4 = i := by omega
                      obtain ⟨A15, c15, rfl, hc15, hC15⟩ := Kd.R_reads HRi.out
                      obtain ⟨kr, rr, hrow, hrl, hrp⟩ := rowOf_any b0 wide high x3 x4 x5 x6 b7 tw th rows ys HS.out.depth (by have := HLi.out; omega)
                      have HRL : Aside0 (rr.length ≤ 256 ∧ 0 < rr.length) := ⟨by have := HLi.out; omega, hrp (by have := HLi.out; omega)⟩
                      have hrl1 := HRL.out.1
                      clear hrl hrp
                      have HC16 := Aside0.mk (fun w1 (hb : Below wr.heap.size wr w1) => spec_Tiff_rowOf.calls kr _ _ _ _ _ _ _ _ _ _ _ A15 c15 ys rr w1 (Kd.C_below hC15 hb) hc15 hrow)
                      clear hC15 hrow
                      have HRz4 := Aside0.mk (Kd.R_below HRj.out (HBi.out))
                      have HBz4 : Aside0 (Below wo.heap.size wo wr) := ⟨HBj.out.trans (HBi.out.mono HBj.out.size)⟩
                      go_wp2_with (first | (go_at_call 16; go_loud (refine (HC16.out _ (Below.refl _ _)).mono ?_); rintro e w3 ⟨v3, rfl, k1, k2⟩; obtain ⟨A3, c3', rfl, hc3, k3⟩ := Kd.R_reads k1; have K3 := Aside0.mk k3; have HR3 := Aside0.mk (Kd.R_below HRz4.out k2); have HB3 := Aside0.mk (HBz4.out.trans (k2.mono HBz4.out.size)); clear k1 k2 k3) | ((with_reducible refine gate_builtin (b := .append) (xs := #[.tmp 114, .tmp 117]) rfl ?_); at_builtin; go_loud (refine Kd.R_append_rows (Kd.int .u8) (w0 := wo) wo.heap.size rfl (.tmp 114) (.tmp 117) 26 5 (.int .u8 0) 1 rfl Tryd.underlying26 i5 rfl (by decide) (by omega) _ zs rr _ _ _ (fun _ => True) (fun _ => False) rfl rfl HR3.out K3.out (fun _ _ h => h) (fun _ h => h.elim) (fun k hk => trivial) HB3.out HB3.out.size (by have := HLj.out.1; omega) ?_); intro v6 w6 ho hb6 hg6 hat; have HO := Aside0.mk ho; have HB6 := Aside0.mk hb6; clear ho hb6 hg6 hat))
                      go_roundg (th - (j + 1))
                      case measure => have := HJ.out; omega
                      case rel => exact ⟨j + 1, zs ++ rr, by go_num, ⟨rfl, by omega⟩, HO, ⟨by have := HLj.out.1; rw [List.length_append]; omega, fun _ => by rw [List.length_append]; have := HRL.out.2; omega⟩, HB6⟩
                ·
                  obtain rfl : th = j := by omega
                  obtain ⟨A13, c13, rfl, hc13, hC13⟩ := Kd.R_reads HRj.out
                  have H17 := Aside0.mk (packed_own b0 wide high x3 x4 x5 x6 b7 tw th rows A13 c13 zs wr hC13 hc13 wo.heap.size HBj.out.size HRj.out (by have := HLj.out.1; omega) (HLj.out.2 (by omega)) HS.out.packing)
                  clear hC13
                  have HOKP : Aside0 (∀ k, wo.heap.size ≤ k → k ≠ W.heap.size ∧ some k ≠ (Value.slice A10 ws.length c10').ownBlock) := ⟨fun k hk => ⟨by have := blk_lt HG.out; omega, fun e => by obtain ⟨inner, ho⟩ := Kd.R_own HR.out; have := own_lt ho k e.symm; omega⟩⟩
                  go_wp2_with (first | (go_at_call 17; go_loud (refine H17.out.mono ?_); rintro e w5 ⟨v5, ys5, rfl, k1, k2, k3⟩; obtain ⟨A5, c5, rfl, _, _⟩ := Kd.R_reads k1; have KB := Aside0.mk k3; have HR5 := Aside0.mk (Kd.R_below HR.out (HBj.out.trans (k3.mono HBj.out.size))); have HM5 : Aside0 ((Kd.slice 5 (Kd.int .u8)).M w5 W.heap.size (fun k => wo.heap.size ≤ k) ys5 [.slice A5 ys5.length c5]) := ⟨⟨_, rfl, Kd.R_lower (Kd.R_mono (Kd.R_bound k1) (fun k hk => hk.2.1)) HB.out.size⟩⟩; have HW5 : Aside0 (Below W.heap.size W w5) := ⟨HB.out.trans ((HBj.out.trans (k3.mono HBj.out.size)).mono HB.out.size)⟩; have HG5 := Aside0.mk ((k3.block _ (blk_lt HGj.out)).trans HGj.out); clear k1 k3) | ((with_reducible refine gate_builtin (b := .append) (xs := #[.tmp 120, .tmp 125]) rfl ?_); at_builtin; go_loud (refine Kd.R_append (Kd.slice 5 (Kd.int .u8)) (w0 := W) W.heap.size rfl (.tmp 120) (.tmp 125) 48 26 (.slice none 0 0) 24 rfl Tryd.underlying48 i26 rfl (by decide) (by omega) _ ws ys5 [.slice A5 ys5.length c5] (fun k => k ≠ W.heap.size) (fun k => wo.heap.size ≤ k) rfl rfl HM5.out HOKP.out (fun k hk => by have := blk_lt HG5.out; omega) HR5.out HW5.out HW5.out.size (by have := HL.out.1; have := HK.out.2.1; have := HK2.out.2.1; omega) ?_); intro v1 w6 ho hb1 hg1 hat; have HO := Aside0.mk ho; have HB6 := Aside0.mk hb1; have HG6 := Aside0.mk ((hg1.block W.heap.size (blk_lt HG5.out) (fun e => (HR5.out.1 _ e.symm) rfl)).trans HG5.out); obtain ⟨_, _, _, _, _, _, _, _, e8, _, _⟩ := tiff_cells HG6.out; clear ho hb1 hg1 hat))
                  go_roundg (3 - (q + 1))
                  case measure => have := HK2.out; omega
                  case rel => exact ⟨q + 1, x + tw, ws ++ [ys5], by go_num, ⟨rfl, by omega, by rw [HK2.out.2.2, Nat.mul_succ]⟩, HO, ⟨by have := HL.out.1; simp; omega, by simp, by
                    have := HL.out.2.2
                    intro y' hy'
                    rcases List.mem_append.1 hy' with h | h
                    · exact this y' h
                    · rw [List.mem_singleton.1 h]; omega⟩, HB6, HG6⟩
            · have hxd : decide (x < wide) = false := decide_eq_false (by omega)
              go_wp2
              go_roundg (3 - (p + 1))
              case measure => have := HK.out; omega
              case rel => exact ⟨p + 1, y + th, ws, by go_num, ⟨rfl, by omega, by rw [HK.out.2.2, Nat.mul_succ]⟩, HR, ⟨by have := HL.out.1; have := HK2.out; omega, fun _ => HL.out.2.1 (by have := HS.out.w1; have h4 := HK2.out.2.2; rcases Nat.eq_zero_or_pos q with h | h; (rw [h, Nat.mul_zero] at h4; omega); omega), HL.out.2.2⟩, HB, HG⟩
        · have hyd : decide (y < high) = false := decide_eq_false (by omega)
          go_wp2
          go_meet
          exact ⟨ws, HR, ⟨HL.out.2.1 (by have := HS.out.h1; have h4 := HK.out.2.2; rcases Nat.eq_zero_or_pos p with h | h; (rw [h, Nat.mul_zero] at h4; omega); omega), by have := HL.out.1; have := HK.out; omega, HL.out.2.2⟩, HB, HG⟩
  case rest =>
    clear c0 c1 c2 c3 c4 c5 c6 c7 c8 c9 c10 HR0 HB2 hbx K1
    obtain ⟨ws, HR, HL, HB, HG⟩ := hcut
    obtain ⟨A10, c10', rfl, hc10, hC10⟩ := Kd.R_reads HR.out
    have HCP := Aside0.mk hC10
    clear hC10
    have hwl := HL.out.2.1
    obtain ⟨w2, rfl⟩ : ∃ w2 : World, w2 = wc := ⟨_, rfl⟩
    have Z1 : Aside0 (Kd.R (Kd.int .i64) 3 (((w2.alloc (.cells #[] 3)).alloc (.cells #[] 3)).alloc (.cells #[] 5)) w2.heap.size (fun _ => True) (.slice (some ⟨w2.heap.size, 0, none⟩) 0 0) []) :=
      ⟨Kd.R_alloc (Kd.R_alloc (Kd.R_mono (R_newI w2 w2.heap.size [] (Nat.le_refl _) (by simp)) (fun _ _ => trivial)) _) _⟩
    have Z2 : Aside0 (Kd.R (Kd.int .i64) 3 (((w2.alloc (.cells #[] 3)).alloc (.cells #[] 3)).alloc (.cells #[] 5)) w2.heap.size (fun _ => True) (.slice (some ⟨w2.heap.size + 1, 0, none⟩) 0 0) []) :=
      ⟨Kd.R_alloc (by have h := R_newI (w2.alloc (.cells #[] 3)) w2.heap.size [] (by simp) (by simp); simp only [World.size_alloc] at h; exact Kd.R_mono h (fun _ _ => trivial)) _⟩
    have Z3 : Aside0 (Kd.R (Kd.int .u8) 5 (((w2.alloc (.cells #[] 3)).alloc (.cells #[] 3)).alloc (.cells #[] 5)) w2.heap.size (fun _ => True) (.slice (some ⟨w2.heap.size + 1 + 1, 0, none⟩) 0 0) []) :=
      ⟨by have h := R_new ((w2.alloc (.cells #[] 3)).alloc (.cells #[] 3)) w2.heap.size [] (by simp; omega) (by simp); simp only [World.size_alloc] at h; exact h⟩
    have Z4 : Aside0 (Below w2.heap.size w2 (((w2.alloc (.cells #[] 3)).alloc (.cells #[] 3)).alloc (.cells #[] 5))) := ⟨(((Below.refl _ _).alloc (Nat.le_refl _) _).alloc (by simp) _).alloc (by simp; omega) _⟩
    have Z5 : Aside0 (∀ k, (Value.slice (some ⟨w2.heap.size + 1, 0, none⟩) 0 0).ownBlock = some k → some k ≠ (Value.slice (some ⟨w2.heap.size, 0, none⟩) 0 0).ownBlock) := ⟨fun k hk he => by simp [Value.ownBlock] at hk he; omega⟩
    go_upto_region 37 with (fail)
    generalize ((w2.alloc (.cells #[] 3)).alloc (.cells #[] 3)).alloc (.cells #[] 5) = w3 at *
    go_loopg [21, 22, 23, 179] ws.length (fun kq v21 v22 v23 v179 wr => ∃ (k : Nat) (pl sz rs : List Int), v179 = .int .i64 k ∧ Aside0 (kq = ws.length - k ∧ k ≤ ws.length) ∧ Aside0 (Kd.R (Kd.int .i64) 3 wr w2.heap.size (fun _ => True) v21 pl) ∧ Aside0 (Kd.R (Kd.int .i64) 3 wr w2.heap.size (fun _ => True) v22 sz) ∧ Aside0 (Kd.R (Kd.int .u8) 5 wr w2.heap.size (fun _ => True) v23 rs) ∧
      Aside0 (∀ k, v22.ownBlock = some k → some k ≠ v21.ownBlock) ∧ Aside0 (pl.length = k ∧ sz.length = k ∧ rs.length ≤ 300000 * k ∧ (∀ v ∈ pl, 0 ≤ v ∧ v < 20000000) ∧ (∀ v ∈ sz, 0 ≤ v ∧ v < 20000000)) ∧ Aside0 (Below w2.heap.size w2 wr))
    case atStart => exact ⟨0, [], [], [], rfl, ⟨rfl, by omega⟩, Z1, Z2, Z3, Z5, ⟨by simp, by simp, by simp, by simp, by simp⟩, Z4⟩
    case round =>
      clear Z1 Z2 Z3 Z4 Z5
      obtain ⟨k, pl, sz, rs, rfl, HK, H1, H2, H3, HN2, HF, HBr⟩ := hrel
      have hk1 := HK.out.2
      obtain ⟨A21, c21, rfl, _, _⟩ := Kd.R_reads H1.out
      obtain ⟨A22, c22, rfl, _, _⟩ := Kd.R_reads H2.out
      obtain ⟨A23, c23, rfl, _, _⟩ := Kd.R_reads H3.out
      have hrs : rs.length ≤ 12000000 := by have := HF.out.2.2.1; omega
      have hpl : pl.length ≤ 40 := by have := HF.out.1; omega
      have hsl : sz.length ≤ 40 := by have := HF.out.2.1; omega
      rcases Nat.lt_or_ge k ws.length with hk | hk
      ·
        obtain ⟨ad, AP, cP, rfl, hP0, hPc, hPC⟩ := at_P HCP.out k hk
        have hyl : (ws.getD k []).length ≤ 300000 := HL.out.2.2 _ (by rw [List.getD_eq_getElem?_getD, List.getElem?_eq_getElem hk]; exact List.getElem_mem hk)
        have hPw : wr.cell? (ad.add k) = some (.slice AP (ws.getD k []).length cP) := (HBr.out.cell (World.block_lt_of_cell? _ _ hP0)).trans hP0
        generalize ws.getD k [] = yk at hPw hPc hPC hyl
        have HPC := Aside0.mk hPC
        clear hPC hP0
        go_wp2_with (first
          | ((with_reducible refine gate_builtin (b := .append) (xs := #[.tmp 183, .tmp 187]) rfl ?_); at_builtin; go_loud (refine Kd.R_append (Kd.int .i64) (w0 := w2) w2.heap.size rfl (.tmp 183) (.tmp 187) 28 3 (.int .i64 0) 8 rfl Tryd.underlying28 i3 rfl (by decide) (by omega) _ pl _ [_] (fun _ => True) (fun _ => False) rfl rfl rfl (fun _ hk => hk.elim) (fun k hk => trivial) H1.out HBr.out HBr.out.size (by omega) ?_); intro v1 wa ho hb hg hat; have O1 := Aside0.mk ho; have B1 := Aside0.mk hb; have T1 := Aside0.mk (two_rows H2.out HN2.out hg hat); have R1 := Aside0.mk (Kd.R_over H3.out H1.out (by simp [Kd.int, Kd.scalar]) hg); clear ho hb hg hat)
          | ((with_reducible refine gate_builtin (b := .append) (xs := #[.tmp 189, .tmp 192]) rfl ?_); at_builtin; go_loud (refine Kd.R_append (Kd.int .i64) (w0 := w2) w2.heap.size rfl (.tmp 189) (.tmp 192) 28 3 (.int .i64 0) 8 rfl Tryd.underlying28 i3 rfl (by decide) (by omega) _ sz _ [_] (fun _ => True) (fun _ => False) rfl rfl rfl (fun _ hk => hk.elim) (fun k hk => trivial) T1.out.1 B1.out B1.out.size (by omega) ?_); intro v2 wb ho hb hg hat; have O2 := Aside0.mk ho; have B2 := Aside0.mk hb; have T2 := Aside0.mk (two_rows O1.out (apart_symm T1.out.2) hg hat); have R2 := Aside0.mk (Kd.R_over R1.out T1.out.1 (by simp [Kd.int, Kd.scalar]) hg); have P2 := Aside0.mk (Kd.C_below HPC.out hb); clear ho hb hg hat)
          | ((with_reducible refine gate_builtin (b := .append) (xs := #[.tmp 194, .tmp 195]) rfl ?_); at_builtin; go_loud (refine Kd.R_append_rows (Kd.int .u8) (w0 := w2) w2.heap.size rfl (.tmp 194) (.tmp 195) 26 5 (.int .u8 0) 1 rfl Tryd.underlying26 i5 rfl (by decide) (by omega) _ rs yk _ _ _ (fun _ => True) (fun _ => False) rfl rfl R2.out P2.out (fun _ _ h => h) (fun _ h => h.elim) (fun k hk => trivial) B2.out B2.out.size (by omega) ?_); intro v3 wd ho hb hg hat; have O3 := Aside0.mk ho; have B3 := Aside0.mk hb; have U1 := Aside0.mk (Kd.R_over T2.out.1 R2.out (by simp [Kd.int, Kd.scalar]) hg); have U2 := Aside0.mk (Kd.R_over O2.out R2.out (by simp [Kd.int, Kd.scalar]) hg); clear ho hb hg hat))
        go_roundg (ws.length - (k + 1))
        case measure => have := HK.out; omega
        case rel => exact ⟨k + 1, _, _, _, by go_num, ⟨rfl, by omega⟩, U1, U2, O3, ⟨apart_symm T2.out.2⟩, ⟨by have := HF.out.1; simp; omega, by have := HF.out.2.1; simp; omega, by have := HF.out.2.2.1; rw [List.length_append]; omega, by
          have := HF.out.2.2.2.1
          intro v hv
          rcases List.mem_append.1 hv with h | h
          · exact this v h
          · rw [List.mem_singleton.1 h]; omega, by
          have := HF.out.2.2.2.2
          intro v hv
          rcases List.mem_append.1 hv with h | h
          · exact this v h
          · rw [List.mem_singleton.1 h]; omega⟩, B3⟩
      ·
        obtain rfl : ws.length = k := by omega
        clear HCP
        go_upto_if 201 with (fail)
        generalize ((rs.length : Int) % 2 == 1) = b201
        have hsz2 : W.heap.size ≤ w2.heap.size := HB.out.size
        go_cut [23] from 202 to 204 (fun v23 wx => ∃ rs : List Int, Aside0 (Kd.R (Kd.int .u8) 5 wx W.heap.size (fun _ => True) v23 rs) ∧ Aside0 (Kd.R (Kd.int .i64) 3 wx W.heap.size (fun _ => True) (.slice A21 pl.length c21) pl) ∧ Aside0 (Kd.R (Kd.int .i64) 3 wx W.heap.size (fun _ => True) (.slice A22 sz.length c22) sz) ∧ Aside0 (rs.length ≤ 12000001) ∧ Aside0 (Below W.heap.size W wx) ∧ Aside0 (wx.heap[W.heap.size]? = some (boxOf b0 wide high x3 x4 x5 x6 b7 tw th rows)))
        case first =>
          have HBx : Aside0 (Below W.heap.size W wr) := ⟨HB.out.trans (HBr.out.mono hsz2)⟩
          have HGx := Aside0.mk ((HBr.out.block _ (blk_lt HG.out)).trans HG.out)
          cases b201
          · go_wp2_with (fail)
            go_meet
            exact ⟨rs, ⟨Kd.R_lower H3.out hsz2⟩, ⟨Kd.R_lower H1.out hsz2⟩, ⟨Kd.R_lower H2.out hsz2⟩, ⟨by omega⟩, HBx, HGx⟩
          · go_wp2_with ((with_reducible refine gate_builtin (b := .append) (xs := #[.tmp 202, .tmp 203]) rfl ?_); at_builtin; go_loud (refine Kd.R_append (Kd.int .u8) (w0 := w2) w2.heap.size rfl (.tmp 202) (.tmp 203) 26 5 (.int .u8 0) 1 rfl Tryd.underlying26 i5 rfl (by decide) (by omega) _ rs _ [_] (fun _ => True) (fun _ => False) rfl rfl rfl (fun _ hk => hk.elim) (fun k hk => trivial) H3.out HBr.out HBr.out.size (by omega) ?_); intro v3 wd ho hb hg hat; have O3 := Aside0.mk ho; have B3 := Aside0.mk hb; have U1 := Aside0.mk (Kd.R_over H1.out H3.out (by simp [Kd.int, Kd.scalar]) hg); have U2 := Aside0.mk (Kd.R_over H2.out H3.out (by simp [Kd.int, Kd.scalar]) hg); clear ho hb hg hat)
            go_meet
            exact ⟨_, ⟨Kd.R_lower O3.out hsz2⟩, ⟨Kd.R_lower U1.out hsz2⟩, ⟨Kd.R_lower U2.out hsz2⟩, ⟨by simp; omega⟩, ⟨HB.out.trans (B3.out.mono hsz2)⟩, ⟨(B3.out.block _ (blk_lt HG.out)).trans HG.out⟩⟩
        case rest =>
          have HF2 : Aside0 (1 ≤ ws.length ∧ ws.length ≤ 40 ∧ pl.length = ws.length ∧ sz.length = ws.length ∧ (∀ v ∈ pl, 0 ≤ v ∧ v < 20000000) ∧ (∀ v ∈ sz, 0 ≤ v ∧ v < 20000000)) := ⟨HL.out.1, HL.out.2.1, HF.out.1, HF.out.2.1, HF.out.2.2.2.1, HF.out.2.2.2.2⟩
          clear HR HL HB HG H1 H2 H3 HN2 HF HBr hpl hsl hrs hwl hsz2 hk hk1 HK hc10
          obtain ⟨rs, H3, H1, H2, HRS, HB, HG⟩ := hcut
          obtain ⟨A23, c23, rfl, _, _⟩ := Kd.R_reads H3.out
          obtain ⟨w4, rfl⟩ : ∃ w4 : World, w4 = wc := ⟨_, rfl⟩
          have Z1 : Aside0 (Kd.R (Kd.int .i64) 3 (w4.alloc (.cells #[] 3)) w4.heap.size (fun _ => True) (.slice (some ⟨w4.heap.size, 0, none⟩) 0 0) (List.replicate 0 x5)) := ⟨Kd.R_mono (R_newI w4 w4.heap.size [] (Nat.le_refl _) (by simp)) (fun _ _ => trivial)⟩
          have Z2 : Aside0 (Below w4.heap.size w4 (w4.alloc (.cells #[] 3))) := ⟨(Below.refl _ _).alloc (Nat.le_refl _) _⟩
          go_upto_region 47 with (fail)
          generalize w4.alloc (.cells #[] 3) = w5 at *
          go_loopg [26, 207] ch (fun kq v26 v207 wr => ∃ k : Nat, v207 = .int .i64 k ∧ Aside0 (kq = ch - k ∧ k ≤ ch) ∧ Aside0 (Kd.R (Kd.int .i64) 3 wr w4.heap.size (fun _ => True) v26 (List.replicate k x5)) ∧ Aside0 (Below w4.heap.size w4 wr))
          case atStart => exact ⟨0, rfl, ⟨rfl, by omega⟩, Z1, Z2⟩
          case round =>
            clear Z1 Z2
            obtain ⟨k, rfl, HK, HD, HBr⟩ := hrel
            have hk1 := HK.out.2
            obtain ⟨A26, c26, rfl, _, _⟩ := Kd.R_reads HD.out
            have HGr := Aside0.mk ((HBr.out.block _ (blk_lt HG.out)).trans HG.out)
            obtain ⟨_, _, _, _, _, d5, _, _, _, _, _⟩ := tiff_cells HGr.out
            rcases Nat.lt_or_ge k ch with hk | hk
            · go_wp2_with ((with_reducible refine gate_builtin (b := .append) (xs := #[.tmp 209, .tmp 212]) rfl ?_); at_builtin; go_loud (refine Kd.R_append (Kd.int .i64) (w0 := w4) w4.heap.size rfl (.tmp 209) (.tmp 212) 28 3 (.int .i64 0) 8 rfl Tryd.underlying28 i3 rfl (by decide) (by omega) _ (List.replicate k x5) x5 [.int .i64 x5] (fun _ => True) (fun _ => False) rfl rfl rfl (fun _ hk => hk.elim) (fun k hk => trivial) HD.out HBr.out HBr.out.size (by simp; omega) ?_); intro v1 wa ho hb hg hat; have O1 := Aside0.mk ho; have B1 := Aside0.mk hb; clear ho hb hg hat)
              go_roundg (ch - (k + 1))
              case measure => have := HK.out; omega
              case rel => exact ⟨k + 1, by go_num, ⟨rfl, by omega⟩, ⟨by rw [List.replicate_succ']; exact O1.out⟩, B1⟩
            · obtain rfl : ch = k := by omega
              rw [show (List.replicate ch x5).length = ch from List.length_replicate]
              go_upto_region 50 with (fail)
              have hwsz : W.heap.size ≤ w4.heap.size := HB.out.size
              have HD' : Aside0 (Kd.R (Kd.int .i64) 3 wr W.heap.size (fun _ => True) (.slice A26 ch c26) (List.replicate ch x5)) := ⟨by have h := Kd.R_lower HD.out hwsz; rwa [List.length_replicate] at h⟩
              have H3' := Aside0.mk (Kd.R_below H3.out HBr.out)
              have H1' := Aside0.mk (Kd.R_below H1.out HBr.out)
              have H2' := Aside0.mk (Kd.R_below H2.out HBr.out)
              have HB' : Aside0 (Below W.heap.size W wr) := ⟨HB.out.trans (HBr.out.mono hwsz)⟩
              obtain ⟨_, d1, _, _, _, _, _, _, _, _, _⟩ := tiff_cells HGr.out
              have HG1 := Aside0.mk (blk_alloc HGr.out (.cells #[.int .i64 wide] 3))
              have HG2 := Aside0.mk (blk_alloc HG1.out (.cells #[.int .i64 high] 3))
              have HG3 := Aside0.mk (blk_alloc HG2.out (.cells #[.int .i64 x6] 3))
              obtain ⟨_, _, d2, _, _, _, _, _, _, _, _⟩ := tiff_cells HG1.out
              obtain ⟨_, _, _, _, _, _, d6, _, _, _, _⟩ := tiff_cells HG2.out
              obtain ⟨_, _, _, d3, _, _, _, _, _, _, _⟩ := tiff_cells HG3.out
              go_upto_region 51 with (fail)
              have HC0 : Aside0 (StC W (bxOf b0 wide high x3 x4 x5 x6 b7 tw th rows) pl sz rs (.slice A21 pl.length c21) (.slice A22 sz.length c22) (.slice A23 rs.length c23) (((((wr.alloc (.cells #[.int .i64 wide] 3)).alloc (.cells #[.int .i64 high] 3)).alloc (.cells #[.int .i64 x6] 3)).alloc (.cells #[.int .i64 x3] 3)).alloc (.cells #[.int .i64 256, .int .i64 3, .slice (some ⟨wr.heap.size, 0, none⟩) 1 1, .int .i64 257, .int .i64 4, .slice (some ⟨wr.heap.size + 1, 0, none⟩) 1 1, .int .i64 258, .int .i64 3, .slice A26 ch c26,
                .int .i64 259, .int .i64 3, .slice (some ⟨wr.heap.size + 1 + 1, 0, none⟩) 1 1, .int .i64 262, .int .i64 3, .slice (some ⟨wr.heap.size + 1 + 1 + 1, 0, none⟩) 1 1] 52)) (.slice (some ⟨wr.heap.size + 1 + 1 + 1 + 1, 0, none⟩) 5 5) (ents0 wide high x3 x5 x6 ch)) :=
                ⟨⟨five_list wr W.heap.size HB'.out.size _ _ _ _ _ _ _ _ HD'.out, Kd.R_alloc (Kd.R_alloc (Kd.R_alloc (Kd.R_alloc (Kd.R_alloc H1'.out _) _) _) _) _, Kd.R_alloc (Kd.R_alloc (Kd.R_alloc (Kd.R_alloc (Kd.R_alloc H2'.out _) _) _) _) _, Kd.R_alloc (Kd.R_alloc (Kd.R_alloc (Kd.R_alloc (Kd.R_alloc H3'.out _) _) _) _) _, below_alloc (below_alloc (below_alloc (below_alloc (below_alloc HB'.out _) _) _) _) _, blk_alloc (blk_alloc HG3.out _) _⟩⟩
              generalize ((((wr.alloc (.cells #[.int .i64 wide] 3)).alloc (.cells #[.int .i64 high] 3)).alloc (.cells #[.int .i64 x6] 3)).alloc (.cells #[.int .i64 x3] 3)).alloc (.cells #[.int .i64 256, .int .i64 3, .slice (some ⟨wr.heap.size, 0, none⟩) 1 1, .int .i64 257, .int .i64 4, .slice (some ⟨wr.heap.size + 1, 0, none⟩) 1 1, .int .i64 258, .int .i64 3, .slice A26 ch c26,
                .int .i64 259, .int .i64 3, .slice (some ⟨wr.heap.size + 1 + 1, 0, none⟩) 1 1, .int .i64 262, .int .i64 3, .slice (some ⟨wr.heap.size + 1 + 1 + 1, 0, none⟩) 1 1] 52) = w6 at HC0 ⊢
              clear HG1 HG2 HG3 HGr H1' H2' H3' HD' HB' d1 d2 d3 d6 H1 H2 H3 HB HG HK HD HBr hwsz hk hk1
              have HE0 : Aside0 (ents0 wide high x3 x5 x6 ch = ents0 wide high x3 x5 x6 ch ∧ (ents0 wide high x3 x5 x6 ch).length ≤ 5) := ⟨rfl, by simp [ents0]⟩
              generalize hes0 : ents0 wide high x3 x5 x6 ch = es0 at HC0 HE0
              have HES0 := Aside0.mk hes0
              clear hes0
              obtain ⟨v27, hv27⟩ : ∃ v : Value, v = .slice (some ⟨wr.heap.size + 1 + 1 + 1 + 1, 0, none⟩) 5 5 := ⟨_, rfl⟩
              rw [← hv27] at HC0 ⊢
              clear hv27
              obtain ⟨_, _, _, _, _, _, _, _, d8, _, _⟩ := tiff_cells HC0.out.box
              go_upto_if 236 with (fail)
              clear d8
              obtain ⟨b236, h236⟩ : ∃ b : Bool, b = ((tw : Int) == 0) := ⟨_, rfl⟩
              rw [← h236]
              have T236 := Aside0.mk h236
              clear h236
              go_cut [27] from 237 to 241 (fun v27 wx => ∃ es : List Ent, Aside0 (es = es0 ++ entsA tw pl ∧ es.length ≤ 6) ∧ Aside0 (StC W (bxOf b0 wide high x3 x4 x5 x6 b7 tw th rows) pl sz rs (.slice A21 pl.length c21) (.slice A22 sz.length c22) (.slice A23 rs.length c23) wx v27 es))
              case first =>
                as_aux_lemma =>
                cases b236
                · go_wp2_with (fail)
                  go_meet
                  exact ⟨es0, ⟨by rw [entsA, if_neg (by intro h; have := T236.out; rw [h] at this; simp at this), List.append_nil], by have := HE0.out.2; omega⟩, HC0⟩
                · have MM : Aside0 _ := ⟨StC.off HC0.out.list (kE_M 273 4 HC0.out.plc)⟩
                  go_wp2_with ((with_reducible refine gate_builtin (b := .append) (xs := #[.tmp 237, .tmp 240]) rfl ?_); at_builtin; go_loud (refine Kd.R_append kE (w0 := W) W.heap.size rfl (.tmp 237) (.tmp 240) 53 52 (.agg #[.int .i64 0, .int .i64 0, .slice none 0 0]) 40 rfl Tryd.underlying53 i52 rfl (by decide) (by omega) _ es0 ⟨273, 4, pl⟩ [.int .i64 273, .int .i64 4, .slice A21 pl.length c21] (fun _ => True) (fun k => some k ≠ (v27 : Value).ownBlock) rfl (by simp [Act.eval]) MM.out (fun k hk => ⟨trivial, hk⟩) (fun _ _ => trivial) HC0.out.list HC0.out.bel HC0.out.bel.size (by have := HE0.out.2; omega) ?_); intro vn wn ho hb hg hat; have HN := Aside0.mk (HC0.out.grown ho hb hg); clear ho hb hg hat)
                  go_meet
                  exact ⟨_, ⟨by rw [entsA, if_pos (by have := T236.out; simpa using this.symm)], by have := HE0.out.2; simp; omega⟩, HN⟩
              case rest =>
              clear HC0 T236
              obtain ⟨es1, HE1, HC1⟩ := hcut
              obtain ⟨w7, rfl⟩ : ∃ w7 : World, w7 = wc := ⟨_, rfl⟩
              obtain ⟨A27, c27, rfl, _, _⟩ := Kd.R_reads HC1.out.list
              have HX1 := Aside0.mk (HC1.out.alloc (.cells #[.int .i64 ch] 3))
              have MM : Aside0 _ := ⟨StC.off HX1.out.list (kE_M 277 3 (new1 w7 W.heap.size HC1.out.bel.size ch))⟩
              go_upto_region 54 with ((with_reducible refine gate_builtin (b := .append) (xs := #[.tmp 242, .tmp 246]) rfl ?_); at_builtin; go_loud (refine Kd.R_append kE (w0 := W) W.heap.size rfl (.tmp 242) (.tmp 246) 53 52 (.agg #[.int .i64 0, .int .i64 0, .slice none 0 0]) 40 rfl Tryd.underlying53 i52 rfl (by decide) (by omega) _ es1 ⟨277, 3, [(ch : Int)]⟩ [.int .i64 277, .int .i64 3, .slice (some ⟨w7.heap.size, 0, none⟩) 1 1] (fun _ => True) (fun k => some k ≠ (.slice A27 es1.length c27 : Value).ownBlock) rfl (by simp [Act.eval]) MM.out (fun k hk => ⟨trivial, hk⟩) (fun _ _ => trivial) HX1.out.list HX1.out.bel HX1.out.bel.size (by have := HE1.out.2; omega) ?_); intro vn wn ho hb hg hat; have HC2 := Aside0.mk (HX1.out.grown ho hb hg); clear ho hb hg hat)
              clear MM HX1 HC1
              have HE2 : Aside0 (es1 ++ [Ent.mk 277 3 [(ch : Int)]] = es1 ++ [Ent.mk 277 3 [(ch : Int)]] ∧ (es1 ++ [Ent.mk 277 3 [(ch : Int)]]).length ≤ 7) := ⟨rfl, by have := HE1.out.2; simp; omega⟩
              generalize hes2 : es1 ++ [Ent.mk 277 3 [(ch : Int)]] = es2 at HC2 HE2
              have HES2 := Aside0.mk hes2
              clear hes2
              obtain ⟨_, _, _, _, _, _, _, _, d8, _, d10⟩ := tiff_cells HC2.out.box
              go_upto_if 250 with (fail)
              clear d8
              obtain ⟨w8, rfl⟩ : ∃ w8 : World, w8 = wn := ⟨_, rfl⟩
              obtain ⟨b250, h250⟩ : ∃ b : Bool, b = ((tw : Int) == 0) := ⟨_, rfl⟩
              rw [← h250]
              have T250 := Aside0.mk h250
              clear h250
              go_cut [27] from 251 to 259 (fun v27 wx => ∃ es : List Ent, Aside0 (es = es2 ++ entsB tw rows sz ∧ es.length ≤ 9) ∧ Aside0 (StC W (bxOf b0 wide high x3 x4 x5 x6 b7 tw th rows) pl sz rs (.slice A21 pl.length c21) (.slice A22 sz.length c22) (.slice A23 rs.length c23) wx v27 es))
              case first =>
                as_aux_lemma =>
                cases b250
                · go_wp2_with (fail)
                  go_meet
                  exact ⟨es2, ⟨by rw [entsB, if_neg (by intro h; have := T250.out; rw [h] at this; simp at this), List.append_nil], by have := HE2.out.2; omega⟩, HC2⟩
                · have HX := Aside0.mk (HC2.out.alloc (.cells #[.int .i64 rows] 3))
                  have M1 : Aside0 _ := ⟨StC.off HX.out.list (kE_M 278 4 (new1 w8 W.heap.size HC2.out.bel.size rows))⟩
                  have M2 : Aside0 _ := ⟨StC.off HX.out.list (kE_M 279 4 HX.out.szs)⟩
                  have HSR : Aside0 _ := ⟨lit_src _ W.heap.size HX.out.bel.size (((Reps.none _ 3).snoc M1.out rfl).snoc M2.out rfl) (by simp)⟩
                  have HY := Aside0.mk (HX.out.alloc (.cells #[.int .i64 278, .int .i64 4, .slice (some ⟨w8.heap.size, 0, none⟩) 1 1, .int .i64 279, .int .i64 4, .slice A22 sz.length c22] 52))
                  simp only [World.size_alloc, List.nil_append, List.cons_append] at HSR
                  go_wp2_with (first | (with_reducible refine wpList_entries2 (o := ⟨some 258, _, _, _, _, _⟩) rfl 255 257 258 (w8.heap.size + 1) (by simp) rfl rfl (.int .i64 278) (.int .i64 4) (.slice (some ⟨w8.heap.size, 0, none⟩) 1 1) (.int .i64 279) (.int .i64 4) (.slice A22 sz.length c22) (by simp [Act.eval]) (by simp [Act.eval]) ?_) | ((with_reducible refine gate_builtin (b := .append) (xs := #[.tmp 251, .tmp 258]) rfl ?_); at_builtin; go_loud (refine Kd.R_append_rows kE (w0 := W) W.heap.size rfl (.tmp 251) (.tmp 258) 53 52 (.agg #[.int .i64 0, .int .i64 0, .slice none 0 0]) 40 rfl Tryd.underlying53 i52 rfl (by decide) (by omega) _ es2 [⟨278, 4, [(rows : Int)]⟩, ⟨279, 4, sz⟩] _ _ _ (fun _ => True) (fun k => some k ≠ (vn : Value).ownBlock) rfl rfl HY.out.list HSR.out (fun _ _ h => h) (fun k hk => ⟨trivial, hk⟩) (fun _ _ => trivial) HY.out.bel HY.out.bel.size (by have := HE2.out.2; omega) ?_); intro vn wn ho hb hg hat; have HN := Aside0.mk (HY.out.grown ho hb hg); clear ho hb hg hat))
                  go_meet
                  exact ⟨_, ⟨by rw [entsB, if_pos (by have := T250.out; simpa using this.symm)], by have := HE2.out.2; simp; omega⟩, HN⟩
              case rest =>
              clear HC2 T250 d10
              obtain ⟨es3, HE3, HC3⟩ := hcut
              obtain ⟨w9, rfl⟩ : ∃ w9 : World, w9 = wc := ⟨_, rfl⟩
              obtain ⟨A3, c3, rfl, _, _⟩ := Kd.R_reads HC3.out.list
              obtain ⟨_, _, _, _, _, _, _, d7, _, _, _⟩ := tiff_cells HC3.out.box
              go_upto_if 261 with (fail)
              clear d7
              go_cut [27] from 262 to 266 (fun v27 wx => ∃ es : List Ent, Aside0 (es = es3 ++ entsC b7 ∧ es.length ≤ 10) ∧ Aside0 (StC W (bxOf b0 wide high x3 x4 x5 x6 b7 tw th rows) pl sz rs (.slice A21 pl.length c21) (.slice A22 sz.length c22) (.slice A23 rs.length c23) wx v27 es))
              case first =>
                as_aux_lemma =>
                cases b7
                · go_wp2_with (fail)
                  go_meet
                  exact ⟨es3, ⟨by simp [entsC], by have := HE3.out.2; omega⟩, HC3⟩
                · have HX := Aside0.mk (HC3.out.alloc (.cells #[.int .i64 2] 3))
                  have MM : Aside0 _ := ⟨StC.off HX.out.list (kE_M 317 3 (new1 w9 W.heap.size HC3.out.bel.size 2))⟩
                  go_wp2_with ((with_reducible refine gate_builtin (b := .append) (xs := #[.tmp 262, .tmp 265]) rfl ?_); at_builtin; go_loud (refine Kd.R_append kE (w0 := W) W.heap.size rfl (.tmp 262) (.tmp 265) 53 52 (.agg #[.int .i64 0, .int .i64 0, .slice none 0 0]) 40 rfl Tryd.underlying53 i52 rfl (by decide) (by omega) _ es3 ⟨317, 3, [2]⟩ [.int .i64 317, .int .i64 3, .slice (some ⟨w9.heap.size, 0, none⟩) 1 1] (fun _ => True) (fun k => some k ≠ (.slice A3 es3.length c3 : Value).ownBlock) rfl (by simp [Act.eval]) MM.out (fun k hk => ⟨trivial, hk⟩) (fun _ _ => trivial) HX.out.list HX.out.bel HX.out.bel.size (by have := HE3.out.2; omega) ?_); intro vn wn ho hb hg hat; have HN := Aside0.mk (HX.out.grown ho hb hg); clear ho hb hg hat)
                  go_meet
                  exact ⟨_, ⟨by simp [entsC], by have := HE3.out.2; simp; omega⟩, HN⟩
              case rest =>
              clear HC3
              obtain ⟨es4, HE4, HC4⟩ := hcut
              obtain ⟨w10, rfl⟩ : ∃ w10 : World, w10 = wc := ⟨_, rfl⟩
              obtain ⟨A4, c4, rfl, _, _⟩ := Kd.R_reads HC4.out.list
              obtain ⟨_, _, _, d3, _, d5, _, _, _, _, _⟩ := tiff_cells HC4.out.box
              go_upto_if 269 with (fail)
              clear d3
              obtain ⟨b269, h269⟩ : ∃ b : Bool, b = (x3 == 3) := ⟨_, rfl⟩
              rw [← h269]
              have T269 := Aside0.mk h269
              clear h269
              go_cut [27] from 270 to 277 (fun v27 wx => ∃ es : List Ent, Aside0 (es = es4 ++ entsD x3 ps ∧ es.length ≤ 11) ∧ Aside0 (StC W (bxOf b0 wide high x3 x4 x5 x6 b7 tw th rows) pl sz rs (.slice A21 pl.length c21) (.slice A22 sz.length c22) (.slice A23 rs.length c23) wx v27 es))
              case first =>
                as_aux_lemma =>
                cases b269
                · go_wp2_with (fail)
                  go_meet
                  exact ⟨es4, ⟨by rw [entsD, if_neg (by intro h; have := T269.out; rw [h] at this; simp at this), List.append_nil], by have := HE4.out.2; omega⟩, HC4⟩
                · obtain rfl : x5 = 8 := HS.out.d3 (by have := T269.out; simpa using this.symm)
                  have HCOL := Aside0.mk (ColorsOf_any B d ps w10 (Kd.C_below HPAL.out HC4.out.bel))
                  go_wp2_with (first | (go_at_call 18; go_loud (refine HCOL.out.mono ?_); rintro e wa ⟨va, rfl, k1, k2⟩; obtain ⟨AQ, cQ, rfl, _, _⟩ := Kd.R_reads k1; have HX := Aside0.mk (HC4.out.below k2); have MM : Aside0 _ := ⟨StC.off HX.out.list (kE_M 320 3 (Kd.R_lower k1 HC4.out.bel.size))⟩; clear k1 k2) | ((with_reducible refine gate_builtin (b := .append) (xs := #[.tmp 270, .tmp 276]) rfl ?_); at_builtin; go_loud (refine Kd.R_append kE (w0 := W) W.heap.size rfl (.tmp 270) (.tmp 276) 53 52 (.agg #[.int .i64 0, .int .i64 0, .slice none 0 0]) 40 rfl Tryd.underlying53 i52 rfl (by decide) (by omega) _ es4 ⟨320, 3, cols ps⟩ [.int .i64 320, .int .i64 3, .slice AQ (cols ps).length cQ] (fun _ => True) (fun k => some k ≠ (.slice A4 es4.length c4 : Value).ownBlock) rfl (by simp [Act.eval]) MM.out (fun k hk => ⟨trivial, hk⟩) (fun _ _ => trivial) HX.out.list HX.out.bel HX.out.bel.size (by have := HE4.out.2; omega) ?_); intro vn wn ho hb hg hat; have HN := Aside0.mk (HX.out.grown ho hb hg); clear ho hb hg hat))
                  go_meet
                  exact ⟨_, ⟨by rw [entsD, if_pos (by have := T269.out; simpa using this.symm)], by have := HE4.out.2; simp; omega⟩, HN⟩
              case rest =>
              clear HC4 T269 d5
              obtain ⟨es5, HE5, HC5⟩ := hcut
              obtain ⟨w11, rfl⟩ : ∃ w11 : World, w11 = wc := ⟨_, rfl⟩
              obtain ⟨A5, c5, rfl, _, _⟩ := Kd.R_reads HC5.out.list
              obtain ⟨_, _, _, _, _, _, _, _, d8, _, _⟩ := tiff_cells HC5.out.box
              go_upto_if 280 with (fail)
              obtain ⟨b280, h280⟩ : ∃ b : Bool, b = decide (0 < tw) := ⟨_, rfl⟩
              rw [← h280]
              have T280 := Aside0.mk h280
              clear h280
              go_cut [27] from 281 to 295 (fun v27 wx => ∃ es : List Ent, Aside0 (es = es5 ++ entsE tw th pl sz ∧ es.length ≤ 15) ∧ Aside0 (StC W (bxOf b0 wide high x3 x4 x5 x6 b7 tw th rows) pl sz rs (.slice A21 pl.length c21) (.slice A22 sz.length c22) (.slice A23 rs.length c23) wx v27 es))
              case first =>
                as_aux_lemma =>
                cases b280
                · go_wp2_with (fail)
                  go_meet
                  exact ⟨es5, ⟨by rw [entsE, if_neg (by intro h; have := T280.out; simp [h] at this), List.append_nil], by have := HE5.out.2; omega⟩, HC5⟩
                · have HX1 := Aside0.mk (HC5.out.alloc (.cells #[.int .i64 tw] 3))
                  obtain ⟨_, _, _, _, _, _, _, _, _, d9, _⟩ := tiff_cells HX1.out.box
                  have HX := Aside0.mk (HX1.out.alloc (.cells #[.int .i64 th] 3))
                  have R1 : Aside0 _ := ⟨Kd.R_alloc (new1 w11 W.heap.size HC5.out.bel.size tw) (.cells #[.int .i64 th] 3)⟩
                  have R2 : Aside0 _ := ⟨new1 (w11.alloc (.cells #[.int .i64 tw] 3)) W.heap.size HX1.out.bel.size th⟩
                  have M1 : Aside0 _ := ⟨StC.off HX.out.list (kE_M 322 3 R1.out)⟩
                  have M2 : Aside0 _ := ⟨StC.off HX.out.list (kE_M 323 3 R2.out)⟩
                  have M3 : Aside0 _ := ⟨StC.off HX.out.list (kE_M 324 4 HX.out.plc)⟩
                  have M4 : Aside0 _ := ⟨StC.off HX.out.list (kE_M 325 4 HX.out.szs)⟩
                  have HSR : Aside0 _ := ⟨lit_src _ W.heap.size HX.out.bel.size (((((Reps.none _ 3).snoc M1.out rfl).snoc M2.out rfl).snoc M3.out rfl).snoc M4.out rfl) (by simp)⟩
                  have HY := Aside0.mk (HX.out.alloc (.cells #[.int .i64 322, .int .i64 3, .slice (some ⟨w11.heap.size, 0, none⟩) 1 1, .int .i64 323, .int .i64 3, .slice (some ⟨w11.heap.size + 1, 0, none⟩) 1 1, .int .i64 324, .int .i64 4, .slice A21 pl.length c21, .int .i64 325, .int .i64 4, .slice A22 sz.length c22] 52))
                  simp only [World.size_alloc, List.nil_append, List.cons_append] at HSR
                  clear M1 M2 M3 M4 R1 R2
                  go_wp2_with (first | (with_reducible refine wpList_entries4 (o := ⟨some 294, _, _, _, _, _⟩) rfl 285 289 291 293 294 (w11.heap.size + 1 + 1) (by simp) rfl rfl (.int .i64 322) (.int .i64 3) (.slice (some ⟨w11.heap.size, 0, none⟩) 1 1) (.int .i64 323) (.int .i64 3) (.slice (some ⟨w11.heap.size + 1, 0, none⟩) 1 1) (.int .i64 324) (.int .i64 4) (.slice A21 pl.length c21) (.int .i64 325) (.int .i64 4) (.slice A22 sz.length c22) (by simp [Act.eval]) (by simp [Act.eval]) (by simp [Act.eval]) (by simp [Act.eval]) ?_) | ((with_reducible refine gate_builtin (b := .append) (xs := #[.tmp 281, .tmp 294]) rfl ?_); at_builtin; go_loud (refine Kd.R_append_rows kE (w0 := W) W.heap.size rfl (.tmp 281) (.tmp 294) 53 52 (.agg #[.int .i64 0, .int .i64 0, .slice none 0 0]) 40 rfl Tryd.underlying53 i52 rfl (by decide) (by omega) _ es5 [⟨322, 3, [(tw : Int)]⟩, ⟨323, 3, [(th : Int)]⟩, ⟨324, 4, pl⟩, ⟨325, 4, sz⟩] _ _ _ (fun _ => True) (fun k => some k ≠ (.slice A5 es5.length c5 : Value).ownBlock) rfl rfl HY.out.list HSR.out (fun _ _ h => h) (fun k hk => ⟨trivial, hk⟩) (fun _ _ => trivial) HY.out.bel HY.out.bel.size (by have := HE5.out.2; omega) ?_); intro vn wn ho hb hg hat; have HN := Aside0.mk (HY.out.grown ho hb hg); clear ho hb hg hat))
                  go_meet
                  exact ⟨_, ⟨by rw [entsE, if_pos (by have := T280.out; simpa using this.symm)], by have := HE5.out.2; simp; omega⟩, HN⟩
              case rest =>
              clear HC5 T280 d8
              obtain ⟨es6, HE6, HC6⟩ := hcut
              obtain ⟨w12, rfl⟩ : ∃ w12 : World, w12 = wc := ⟨_, rfl⟩
              obtain ⟨A6, c6, rfl, _, _⟩ := Kd.R_reads HC6.out.list
              obtain ⟨_, _, _, d3, d4, _, _, _, _, _, _⟩ := tiff_cells HC6.out.box
              go_upto_region 62 with (fail)
              go_cut [303] from 296 to 303 (fun v wx => ∃ t : Bool, v = .bool t ∧ Aside0 (t = decide (x3 = 2 ∧ 0 < x4)) ∧ w12 = wx)
              case first =>
                as_aux_lemma =>
                by_cases h3 : x3 = 2
                · have H3 := Aside0.mk h3
                  have e1 : (x3 == 2) = true := by rw [h3]; rfl
                  clear h3
                  by_cases h4 : 0 < x4
                  · have e2 : decide (0 < x4) = true := decide_eq_true h4
                    go_wp2_with (fail)
                    go_meet
                    exact ⟨true, by simp, ⟨(decide_eq_true ⟨H3.out, h4⟩).symm⟩, rfl⟩
                  · have e2 : decide (0 < x4) = false := decide_eq_false h4
                    go_wp2_with (fail)
                    go_meet
                    exact ⟨false, by simp, ⟨(decide_eq_false (fun h => by have := h.2; omega)).symm⟩, rfl⟩
                · have e1 : (x3 == 2) = false := by simpa using h3
                  have H3 := Aside0.mk h3
                  clear h3
                  go_wp2_with (fail)
                  go_meet
                  exact ⟨false, by simp, ⟨(decide_eq_false (fun h => H3.out h.1)).symm⟩, rfl⟩
              case rest =>
              obtain ⟨t303, rfl, T303, rfl⟩ := hcut
              obtain ⟨w13, rfl⟩ : ∃ w13 : World, w13 = w12 := ⟨_, rfl⟩
              go_upto_if 303 with (fail)
              go_cut [27] from 304 to 310 (fun v27 wx => ∃ es : List Ent, Aside0 (es = es6 ++ entsF x3 x4 ∧ es.length ≤ 16) ∧ Aside0 (StC W (bxOf b0 wide high x3 x4 x5 x6 b7 tw th rows) pl sz rs (.slice A21 pl.length c21) (.slice A22 sz.length c22) (.slice A23 rs.length c23) wx v27 es))
              case first =>
                as_aux_lemma =>
                cases t303
                · go_wp2_with (fail)
                  go_meet
                  exact ⟨es6, ⟨by rw [entsF, if_neg (by have := T303.out; simpa using this.symm), List.append_nil], by have := HE6.out.2; omega⟩, HC6⟩
                · have HX := Aside0.mk (HC6.out.alloc (.cells #[.int .i64 x4] 3))
                  have MM : Aside0 _ := ⟨StC.off HX.out.list (kE_M 338 3 (new1 w13 W.heap.size HC6.out.bel.size x4))⟩
                  go_wp2_with ((with_reducible refine gate_builtin (b := .append) (xs := #[.tmp 304, .tmp 309]) rfl ?_); at_builtin; go_loud (refine Kd.R_append kE (w0 := W) W.heap.size rfl (.tmp 304) (.tmp 309) 53 52 (.agg #[.int .i64 0, .int .i64 0, .slice none 0 0]) 40 rfl Tryd.underlying53 i52 rfl (by decide) (by omega) _ es6 ⟨338, 3, [x4]⟩ [.int .i64 338, .int .i64 3, .slice (some ⟨w13.heap.size, 0, none⟩) 1 1] (fun _ => True) (fun k => some k ≠ (.slice A6 es6.length c6 : Value).ownBlock) rfl (by simp [Act.eval]) MM.out (fun k hk => ⟨trivial, hk⟩) (fun _ _ => trivial) HX.out.list HX.out.bel HX.out.bel.size (by have := HE6.out.2; omega) ?_); intro vn wn ho hb hg hat; have HN := Aside0.mk (HX.out.grown ho hb hg); clear ho hb hg hat)
                  go_meet
                  exact ⟨_, ⟨by rw [entsF, if_pos (by have := T303.out; simpa using this.symm)], by have := HE6.out.2; simp; omega⟩, HN⟩
              case rest =>
              clear HC6 T303 d3 d4
              obtain ⟨es7, HE7, HC7⟩ := hcut
              have hpl256 : ps.length = 256 := Kd.C_len HPAL.out
              have HE8 : Aside0 (es7 = entsOf wide high x3 x4 x5 x6 b7 tw th rows ch pl sz ps ∧ es7.length ≤ 16) := ⟨by rw [HE7.out.1, HE6.out.1, HE5.out.1, HE4.out.1, HE3.out.1, ← HES2.out, HE1.out.1, ← HES0.out]; rfl, HE7.out.2⟩
              have HOK : Aside0 (∀ e ∈ es7, EntOk e) := ⟨by rw [HE8.out.1]; exact ents_ok wide high x3 x4 x5 x6 b7 tw th rows ch pl sz ps HS.out.w2 HS.out.h2 HS.out.colour HS.out.alpha.2 (by have := HS.out.depth; omega) (by have := HS.out.packing; omega) (by have := HS.out.tiles; omega) (by have := HS.out.r2; have := HS.out.h2; omega) ⟨hch1, hch4⟩ (by have := HF2.out; omega) (by have := HF2.out; omega) HF2.out.2.2.2.2.1 HF2.out.2.2.2.2.2 hpl256 HPV.out⟩
              clear HE0 HE1 HE2 HE3 HE4 HE5 HE6 HE7 HES0 HES2 hpl256
              obtain ⟨AL, cL, rfl, _, hCL⟩ := Kd.R_reads HC7.out.list
              have HCL := Aside0.mk hCL
              have HCR := Aside0.mk (Kd.R_reads' HC7.out.rst).2.2
              have HGD := Aside0.mk HC7.out.box
              have HBD := Aside0.mk HC7.out.bel
              clear hCL HC7
              have hn16 := HE8.out.2
              have hrs12 := HRS.out
              obtain ⟨w14, rfl⟩ : ∃ w14 : World, w14 = wc := ⟨_, rfl⟩
              have HG1 := Aside0.mk (blk_alloc HGD.out (.cells #[.int .u8 73, .int .u8 73] 5 (2, 3)))
              obtain ⟨d0, _, _, _, _, _, _, _, _, _, _⟩ := tiff_cells HG1.out
              have kc := fun (w : World) (C : Array Value) (n c : Nat) => Lib.run_convert_bytes_const (P := Tryd.prog) w 26 5 C n c Tryd.underlying26 Tryd.underlying5
              go_upto_if 314 with (fail)
              clear d0
              go_cut [28] from 315 to 316 (fun v28 wx => ∃ ad : Addr, v28 = .slice (some ad) 2 2 ∧ Aside0 (∀ j u, (nums .u8 (if b0 = true then [77, 77] else [73, 73]))[j]? = some u → wx.cell? (ad.add j) = some u) ∧ Aside0 (Below w14.heap.size w14 wx))
              case first =>
                as_aux_lemma =>
                cases b0
                · go_wp2_with (fail)
                  go_meet
                  exact ⟨_, rfl, ⟨marked_cells w14 73 73⟩, ⟨(Below.refl _ _).alloc (Nat.le_refl _) _⟩⟩
                · have kc2 := kc (w14.alloc (.cells #[.int .u8 73, .int .u8 73] 5 (2, 3))) #[.int .u8 77, .int .u8 77] 2 2
                  simp only [World.size_alloc] at kc2
                  go_wp2_with (fail)
                  go_meet
                  exact ⟨_, rfl, ⟨by have h := marked_cells (w14.alloc (.cells #[.int .u8 73, .int .u8 73] 5 (2, 3))) 77 77; simp only [World.size_alloc] at h; exact h⟩, ⟨((Below.refl _ _).alloc (Nat.le_refl _) _).alloc (by simp) _⟩⟩
              case rest =>
              clear HG1 kc
              obtain ⟨ad28, rfl, HO, HBo⟩ := hcut
              obtain ⟨hd0, hhd0⟩ : ∃ hd0 : List Int, hd0 = (if b0 = true then [77, 77] else [73, 73]) := ⟨_, rfl⟩
              rw [← hhd0] at HO
              have hhl : hd0.length = 2 := by rw [hhd0]; split <;> rfl
              have HHL := Aside0.mk hhl
              clear hhl
              have HHD := Aside0.mk hhd0
              clear hhd0
              have HGo := Aside0.mk ((HBo.out.block _ (blk_lt HGD.out)).trans HGD.out)
              go_upto_region 68 with (fail)
              go_cut [28] from 320 to 331 (fun v28 wx => Aside0 (Kd.R (Kd.int .u8) 5 wx w14.heap.size (fun _ => True) v28 (((hd0 ++ nb b0 2 42) ++ nb b0 4 (8 + (rs.length : Int))) ++ rs)) ∧ Aside0 (Below w14.heap.size w14 wx))
              case first =>
                as_aux_lemma =>
                have hb1 : wc.drew.heap[W.heap.size]? = some (boxOf b0 wide high x3 x4 x5 x6 b7 tw th rows) := HGo.out
                have HO1 : Aside0 (∀ j u, (nums .u8 hd0)[j]? = some u → wc.drew.cell? (ad28.add j) = some u) := HO
                have HB1 : Aside0 (Below w14.heap.size w14 wc.drew) := ⟨HBo.out.drew⟩
                refine start_ (n := 13) (S := fun w' => w'.heap[W.heap.size]? = some (boxOf b0 wide high x3 x4 x5 x6 b7 tw th rows)) (ds := []) #[false, false, false, false, false, false, false, false, false, false, false, false, false] (by kernel_rfl) rfl rfl hb1 (fun hh0 => ?_)
                generalize wc.drew = wd at HO1 HB1 hh0 ⊢
                refine pure_ (i := 0) (N := some 320) (v := ?_) (a' := ?_) #[true, false, false, false, false, false, false, false, false, false, false, false, false] rfl rfl (by kernel_rfl) (fun _ _ _ h => h) (Or.inl ⟨by rfl, ?_⟩) ?_ ?_
                rotate_left
                · intro w'
                  go_simp
                  with_reducible rfl
                rotate_left
                · simp only [Act.put, List.setIfInBounds_toArray, List.set_cons_zero, List.set_cons_succ, i64_w, i32_w]
                  rfl
                refine pure_ (i := 1) (N := some 321) (v := ?_) (a' := ?_) #[true, true, false, false, false, false, false, false, false, false, false, false, false] rfl rfl (by kernel_rfl) (fun _ _ _ h => h) (Or.inl ⟨by rfl, ?_⟩) ?_ ?_
                rotate_left
                · intro w'
                  go_simp
                  with_reducible rfl
                rotate_left
                · simp only [Act.put, List.setIfInBounds_toArray, List.set_cons_zero, List.set_cons_succ, i64_w, i32_w]
                  rfl
                refine take_ (i := 2) (N := some 322) (v := ?_) (a' := ?_) #[true, true, true, false, false, false, false, false, false, false, false, false, false] rfl rfl (by kernel_rfl) (fun _ _ _ h => h) (Or.inl ⟨by rfl, ?_⟩) hh0 ?_ ?_
                rotate_left
                · rintro w' s2
                  obtain ⟨c0, c1, c2, c3, c4, c5, c6, c7, c8, c9, c10⟩ := tiff_cells s2
                  go_simp
                  with_reducible rfl
                rotate_left
                · simp only [Act.put, List.setIfInBounds_toArray, List.set_cons_zero, List.set_cons_succ, i64_w, i32_w]
                  rfl
                refine pure_ (i := 5) (N := some 325) (v := ?_) (a' := ?_) #[true, true, true, false, false, true, false, false, false, false, false, false, false] rfl rfl (by kernel_rfl) (fun _ _ _ h => h) (Or.inl ⟨by rfl, ?_⟩) ?_ ?_
                rotate_left
                · intro w'
                  go_simp
                  with_reducible rfl
                rotate_left
                · simp only [Act.put, List.setIfInBounds_toArray, List.set_cons_zero, List.set_cons_succ, i64_w, i32_w]
                  rfl
                refine take_ (i := 6) (N := some 326) (v := ?_) (a' := ?_) #[true, true, true, false, false, true, true, false, false, false, false, false, false] rfl rfl (by kernel_rfl) (fun _ _ _ h => h) (Or.inl ⟨by rfl, ?_⟩) hh0 ?_ ?_
                rotate_left
                · rintro w' s2
                  obtain ⟨c0, c1, c2, c3, c4, c5, c6, c7, c8, c9, c10⟩ := tiff_cells s2
                  go_simp
                  with_reducible rfl
                rotate_left
                · simp only [Act.put, List.setIfInBounds_toArray, List.set_cons_zero, List.set_cons_succ, i64_w, i32_w]
                  rfl
                refine pure_ (i := 7) (N := some 327) (v := ?_) (a' := ?_) #[true, true, true, false, false, true, true, true, false, false, false, false, false] rfl rfl (by kernel_rfl) (fun _ _ _ h => h) (Or.inl ⟨by rfl, ?_⟩) ?_ ?_
                rotate_left
                · intro w'
                  go_simp
                  with_reducible rfl
                rotate_left
                · simp only [Act.put, List.setIfInBounds_toArray, List.set_cons_zero, List.set_cons_succ, i64_w, i32_w]
                  rfl
                refine pure_ (i := 10) (N := some 330) (v := ?_) (a' := ?_) #[true, true, true, false, false, true, true, true, false, false, true, false, false] rfl rfl (by kernel_rfl) (fun _ _ _ h => h) (Or.inl ⟨by rfl, ?_⟩) ?_ ?_
                rotate_left
                · intro w'
                  go_simp
                  with_reducible rfl
                rotate_left
                · simp only [Act.put, List.setIfInBounds_toArray, List.set_cons_zero, List.set_cons_succ, i64_w, i32_w]
                  rfl
                refine one_ (i := 3) (N := some 323) #[true, true, true, true, false, true, true, true, false, false, true, false, false] rfl rfl (by kernel_rfl) (by decide) (fun K hK => ?_)
                refine goes_ Tryd.func19 (by kernel_rfl) rfl #[.bool b0, .int .i64 2, .int .i64 42] (by rfl) rfl rfl (by simp [Act.eval]) ?_
                refine (number_c b0 2 (by omega) _ _).mono ?_
                rintro e wd1 ⟨AQ, cQ, rfl, k1, k2⟩
                refine ⟨_, rfl, ?_⟩
                have KQ1 := Aside0.mk k1
                have HO2 := Aside0.mk (fun j u hj => (k2.cell (World.block_lt_of_cell? _ _ (HO1.out j u hj))).trans (HO1.out j u hj))
                have HB2 := Aside0.mk (HB1.out.trans (k2.mono HB1.out.size))
                refine hK.out _ _ ((k2.block _ (blk_lt hh0)).trans hh0) (fun hh1 => ?_)
                clear hK K k1 k2
                refine norm_ (a' := ?_) ?_ ?_
                rotate_left
                · show Act.put _ (some 323) _ = _
                  simp only [Act.put, List.setIfInBounds_toArray, List.set_cons_zero, List.set_cons_succ, i64_w, i32_w]
                  rfl
                obtain ⟨aq1, rfl, hcq1⟩ := C_cells KQ1.out (by omega)
                have HCQ1 := Aside0.mk hcq1
                obtain ⟨i0, hi, hz0, hz1, hz2⟩ := info_parts i5
                clear hcq1 KQ1
                refine one_ (i := 4) (N := some 324) #[true, true, true, true, true, true, true, true, false, false, true, false, false] rfl rfl (by kernel_rfl) (by decide) (fun K hK => ?_)
                refine step_append_grows (by rfl) (.tmp 320) (.tmp 323) 26 (by rfl) 5 i0 (.int .u8 0) 1 1 Tryd.underlying26 hi hz0 hz1 hz2 rfl (by decide) (some ad28) 2 2 (nums .u8 hd0) (by rfl) (by simp) (by rw [nums_length, HHL.out]) (fun b hb => by cases hb; exact HO2.out) aq1 2 cQ (nums .u8 (nb b0 2 42)) (by rfl) (by rw [nums_length, nb_length]) HCQ1.out (by intro u hu; simp only [nums, List.mem_map] at hu; obtain ⟨q, _, rfl⟩ := hu; rfl) (by omega) (by simp [maxLen]) (by omega) ?_
                intro vq1 wd2 ho hg
                have HO3 := Aside0.mk (grows_R hd0 (nb b0 2 42) (by rw [HHL.out, nb_length]) ho HB2.out.size)
                have HB3 := Aside0.mk (HB2.out.trans ((grown_below hg).mono HB2.out.size))
                refine hK.out _ _ ((hg.block _ (blk_lt hh1) (by simp)).trans hh1) (fun hh2 => ?_)
                clear hK K ho hg hi hz0 hz1 hz2 HCQ1
                refine norm_ (a' := ?_) ?_ ?_
                rotate_left
                · show Act.put _ (some 324) _ = _
                  simp only [Act.put, List.setIfInBounds_toArray, List.set_cons_zero, List.set_cons_succ, i64_w, i32_w]
                  rfl
                refine one_ (i := 8) (N := some 328) #[true, true, true, true, true, true, true, true, true, false, true, false, false] rfl rfl (by kernel_rfl) (by decide) (fun K hK => ?_)
                refine goes_ Tryd.func19 (by kernel_rfl) rfl #[.bool b0, .int .i64 4, .int .i64 (8 + (rs.length : Int))] (by rfl) rfl rfl (by simp [Act.eval]) ?_
                refine (number_c b0 4 (by omega) _ _).mono ?_
                rintro e wd3 ⟨AQ, cQ, rfl, k1, k2⟩
                refine ⟨_, rfl, ?_⟩
                have KQ2 := Aside0.mk k1
                have HO4 := Aside0.mk (Kd.R_below HO3.out k2)
                have HB4 := Aside0.mk (HB3.out.trans (k2.mono HB3.out.size))
                refine hK.out _ _ ((k2.block _ (blk_lt hh2)).trans hh2) (fun hh3 => ?_)
                clear hK K k1 k2
                refine norm_ (a' := ?_) ?_ ?_
                rotate_left
                · show Act.put _ (some 328) _ = _
                  simp only [Act.put, List.setIfInBounds_toArray, List.set_cons_zero, List.set_cons_succ, i64_w, i32_w]
                  rfl
                refine one_ (i := 9) (N := some 329) #[true, true, true, true, true, true, true, true, true, true, true, false, false] rfl rfl (by kernel_rfl) (by decide) (fun K hK => ?_)
                refine Kd.R_append_rows_step (Kd.int .u8) (w0 := w14) w14.heap.size (by rfl) (.tmp 324) (.tmp 328) 26 5 (.int .u8 0) 1 rfl Tryd.underlying26 i5 rfl (by decide) (by omega) _ _ (nb b0 4 (8 + (rs.length : Int))) _ _ _ (fun _ => True) (fun _ => False) rfl rfl HO4.out KQ2.out (fun _ _ h => h) (fun _ h => h.elim) (fun k hk => trivial) HB4.out HB4.out.size (by have := HHL.out; simp [nb_length]; omega) ?_
                intro vq2 wd4 ho hb hg hat
                have HO5 := Aside0.mk ho
                have HB5 := Aside0.mk hb
                have KQ3 := Aside0.mk (Kd.C_below HCR.out hb)
                refine hK.out _ _ (StD.keep HO4.out hg hh3 (by decide)) (fun hh4 => ?_)
                clear hK K ho hb hg hat
                refine norm_ (a' := ?_) ?_ ?_
                rotate_left
                · show Act.put _ (some 329) _ = _
                  simp only [Act.put, List.setIfInBounds_toArray, List.set_cons_zero, List.set_cons_succ, i64_w, i32_w]
                  rfl
                refine one_ (i := 11) (N := some 331) #[true, true, true, true, true, true, true, true, true, true, true, true, false] rfl rfl (by kernel_rfl) (by decide) (fun K hK => ?_)
                refine Kd.R_append_rows_step (Kd.int .u8) (w0 := w14) w14.heap.size (by rfl) (.tmp 329) (.tmp 330) 26 5 (.int .u8 0) 1 rfl Tryd.underlying26 i5 rfl (by decide) (by omega) _ _ rs _ _ _ (fun _ => True) (fun _ => False) rfl rfl HO5.out KQ3.out (fun _ _ h => h) (fun _ h => h.elim) (fun k hk => trivial) HB5.out HB5.out.size (by have := HHL.out; simp [nb_length]; omega) ?_
                intro vq3 wd5 ho hb hg hat
                have HO6 := Aside0.mk ho
                have HB6 := Aside0.mk hb
                refine hK.out _ _ (StD.keep HO5.out hg hh4 (by decide)) (fun hh5 => ?_)
                clear hK K ho hb hg hat
                refine norm_ (a' := ?_) ?_ ?_
                rotate_left
                · show Act.put _ (some 331) _ = _
                  simp only [Act.put, List.setIfInBounds_toArray, List.set_cons_zero, List.set_cons_succ, i64_w, i32_w]
                  rfl
                refine pure_ (i := 12) (N := some 28) (v := ?_) (a' := ?_) #[true, true, true, true, true, true, true, true, true, true, true, true, true] rfl rfl (by kernel_rfl) (fun _ _ _ h => h) (Or.inl ⟨by rfl, ?_⟩) ?_ ?_
                rotate_left
                · intro w'
                  go_simp
                  with_reducible rfl
                rotate_left
                · simp only [Act.put, List.setIfInBounds_toArray, List.set_cons_zero, List.set_cons_succ, i64_w, i32_w]
                  rfl
                refine done_ (by kernel_rfl) ?_
                go_wp2_with (fail)
                go_meet
                exact ⟨HO6, HB6⟩
              case rest =>
              clear HO HBo HGo
              obtain ⟨HO, HBo⟩ := hcut
              have HP0 : Aside0 (((hd0 ++ nb b0 2 42) ++ nb b0 4 (8 + (rs.length : Int))) ++ rs = headF b0 (8 + rs.length) ++ rs ∧ (((hd0 ++ nb b0 2 42) ++ nb b0 4 (8 + (rs.length : Int))) ++ rs).length ≤ 12000020) := ⟨by rw [HHD.out]; simp [headF], by have := HHL.out; simp [nb_length]; omega⟩
              generalize ((hd0 ++ nb b0 2 42) ++ nb b0 4 (8 + (rs.length : Int))) ++ rs = P0 at HO HP0
              clear HHD HHL
              have hp0l := HP0.out.2
              obtain ⟨mr, hmr⟩ : ∃ mr, mr = moreF rs es7 := ⟨_, rfl⟩
              have HMR := Aside0.mk hmr
              clear hmr
              have HGo := Aside0.mk (blk_alloc ((HBo.out.block _ (blk_lt HGD.out)).trans HGD.out) (.cells #[] 5))
              obtain ⟨d0, _, _, _, _, _, _, _, _, _, _⟩ := tiff_cells HGo.out
              have HT1 : Aside0 (StD w14 _ (.slice (some ⟨wc.heap.size, 0, none⟩) 0 0) P0 [] (wc.alloc (.cells #[] 5))) := ⟨⟨Kd.R_alloc HO.out _, by have h := R_new wc w14.heap.size [] HBo.out.size (by simp); exact h, fun k hk he => by have h2 := Kd.R_lt HO.out k he.symm; simp [Value.ownBlock] at hk; omega, HBo.out.alloc HBo.out.size _⟩⟩
              clear HO
              go_upto_region 73 with (first | (go_at_call 19; go_loud (refine (number_c b0 2 (by omega) _ _).mono ?_); rintro e wa ⟨AQ, cQ, rfl, k1, k2⟩; have KQ := Aside0.mk k1; have HT2 := Aside0.mk (HT1.out.below k2); clear k1 k2) | ((with_reducible refine gate_builtin (b := .append) (xs := #[.tmp 340, .tmp 345]) rfl ?_); at_builtin; go_loud (refine Kd.R_append_rows (Kd.int .u8) (w0 := w14) w14.heap.size rfl (.tmp 340) (.tmp 345) 26 5 (.int .u8 0) 1 rfl Tryd.underlying26 i5 rfl (by decide) (by omega) _ P0 _ _ _ _ (fun _ => True) (fun _ => False) rfl rfl HT2.out.out KQ.out (fun _ _ h => h) (fun _ h => h.elim) (fun k hk => trivial) HT2.out.bel HT2.out.bel.size (by omega) ?_); intro vn wn ho hb hg hat; have HT3 := Aside0.mk (HT2.out.outs ho hb hg hat); clear ho hb hg hat))
              clear d0 HT1 HT2 HGo KQ HBo
              have HP1 : Aside0 (P0 ++ nb b0 2 (es7.length : Int) = headF b0 (8 + rs.length) ++ rs ++ nb b0 2 es7.length ∧ (P0 ++ nb b0 2 (es7.length : Int)).length ≤ 12000030) := ⟨by rw [HP0.out.1], by rw [List.length_append, nb_length]; omega⟩
              generalize P0 ++ nb b0 2 (es7.length : Int) = P1 at HT3 HP1
              have hp1l := HP1.out.2
              clear HP0 hp0l
              go_loopg [28, 31, 349] es7.length (fun kq v28 v31 v349 wr => ∃ k : Nat, v349 = .int .i64 k ∧ Aside0 (kq = es7.length - k ∧ k ≤ es7.length) ∧ Aside0 (StD w14 v28 v31 (P1 ++ (dirF b0 mr (es7.take k)).1) ((dirF b0 mr (es7.take k)).2) wr))
              case atStart => exact ⟨0, rfl, ⟨rfl, by omega⟩, ⟨by simpa [dirF] using HT3.out⟩⟩
              case round =>
               clear HT3
               obtain ⟨k, rfl, HK, HT⟩ := hrel
               have hk1 := HK.out.2
               rcases Nat.lt_or_ge k es7.length with hk | hk
               · 
                 obtain ⟨ee, hee⟩ : ∃ e, es7[k]? = some e := ⟨_, List.getElem?_eq_getElem hk⟩
                 have HEE := Aside0.mk hee
                 obtain ⟨ad, AE, cE, rfl, e0, e1, e2, hce, hCE⟩ := at_E HCL.out k ee hee
                 have HCE := Aside0.mk hCE
                 have HOKE := Aside0.mk (HOK.out ee (List.mem_of_getElem? hee))
                 have hne := HOKE.out.n2
                 clear hCE hee
                 have hcs : ∀ {p : Addr} {u : Value}, w14.cell? p = some u → wr.cell? p = some u := fun h => (HT.out.bel.cell (World.block_lt_of_cell? _ _ h)).trans h
                 have hcz : ∀ {p : Addr} {u : Value}, w14.cell? p = some u → (wr.alloc (.cells #[.int .i64 0, .int .i64 0, .slice none 0 0] 52)).cell? p = some u := fun h => cell_alloc (hcs h) _
                 have a0 := hcs e0
                 have a1 := hcs e1
                 have a2 := hcs e2
                 have z0 := hcz e0
                 have z1 := hcz e1
                 have z2 := hcz e2
                 clear hcs hcz e0 e1 e2
                 generalize hT1 : (dirF b0 mr (es7.take k)).1 = RW at HT
                 generalize hT2 : (dirF b0 mr (es7.take k)).2 = TL at HT
                 have HRT := Aside0.mk (And.intro hT1 hT2)
                 have hrwl : RW.length ≤ 192 := by rw [← hT1, dirF_length, List.length_take]; omega
                 have htll : TL.length ≤ 64000 := by have h := tail_len b0 mr (es7.take k) (fun e he => (HOK.out e (List.mem_of_mem_take he)).n2); rw [hT2, List.length_take] at h; omega
                 clear hT1 hT2
                 go_upto_if 355 with (fail)
                 clear a0 a1 a2 z0 z1 z2
                 have HTA := Aside0.mk (HT.out.alloc (.cells #[.int .i64 ee.tag, .int .i64 ee.kind, .slice AE ee.nums.length cE] 52))
                 have HEB : Aside0 ((wr.alloc (.cells #[.int .i64 ee.tag, .int .i64 ee.kind, .slice AE ee.nums.length cE] 52)).heap[wr.heap.size]? = some (.cells #[.int .i64 ee.tag, .int .i64 ee.kind, .slice AE ee.nums.length cE] 52 (0, 0))) := ⟨heap_new_ wr _⟩
                 obtain ⟨b355, h355⟩ : ∃ b : Bool, b = (ee.kind == 4) := ⟨_, rfl⟩
                 rw [← h355]
                 have T355 := Aside0.mk h355
                 clear h355 HT
                 obtain ⟨g33, hg33⟩ : ∃ g : Nat, g = wr.heap.size := ⟨_, rfl⟩
                 rw [← hg33] at HEB ⊢
                 clear hg33
                 generalize wr.alloc (.cells #[.int .i64 ee.tag, .int .i64 ee.kind, .slice AE ee.nums.length cE] 52) = wA at HTA HEB ⊢
                 go_cut [34] from 34 to 34 (fun v34 wx => v34 = .int .i64 (ee.wd : Int) ∧ wA = wx)
                 case first =>
                   cases b355
                   · have e34 : ee.wd = 2 := by have h := T355.out; unfold Ent.wd; rw [if_neg (by intro h2; rw [h2] at h; simp at h)]
                     go_wp2_with (fail)
                     go_meet
                     exact ⟨by rw [e34]; rfl, rfl⟩
                   · have e34 : ee.wd = 4 := by have h := T355.out; unfold Ent.wd; rw [if_pos (by simpa using h.symm)]
                     go_wp2_with (fail)
                     go_meet
                     exact ⟨by rw [e34]; rfl, rfl⟩
                 case rest =>
                 obtain ⟨rfl, rfl⟩ := hcut
                 clear T355
                 have hwd := wd_pos ee
                 have HEB2 := Aside0.mk (blk_alloc HEB.out (.cells #[] 5))
                 obtain ⟨_, _, f2⟩ := ent_cells HEB2.out
                 have HFZ : Aside0 (StF w14 _ _ (.slice (some ⟨wA.heap.size, 0, none⟩) 0 0) _ _ [] (wA.alloc (.cells #[] 5))) := ⟨⟨HTA.out.alloc _, R_new wA w14.heap.size [] HTA.out.bel.size (by simp), fun k hk he => by have h2 := Kd.R_lt HTA.out.out k he.symm; simp [Value.ownBlock] at hk; omega, fun k hk he => by have h2 := Kd.R_lt HTA.out.tail k he.symm; simp [Value.ownBlock] at hk; omega⟩⟩
                 go_upto_region 80 with (fail)
                 clear f2 HTA HEB
                 generalize wA.alloc (.cells #[] 5) = wB at HFZ HEB2 ⊢
                 obtain ⟨gA, rfl⟩ : ∃ gA : Nat, gA = gk := ⟨_, rfl⟩
                 go_loopg [35, 360] ee.nums.length (fun kq v35 v360 wr => ∃ j : Nat, v360 = .int .i64 j ∧ Aside0 (kq = ee.nums.length - j ∧ j ≤ ee.nums.length) ∧ Aside0 (StF w14 u28 u31 v35 (P1 ++ RW) TL (((ee.nums.take j).map (nb b0 ee.wd)).flatten) wr) ∧ Aside0 (wr.heap[g33]? = some (.cells #[.int .i64 ee.tag, .int .i64 ee.kind, .slice AE ee.nums.length cE] 52 (0, 0))))
                 case atStart => exact ⟨0, rfl, ⟨rfl, by omega⟩, ⟨by simpa using HFZ.out⟩, HEB2⟩
                 case round =>
                  clear HFZ HEB2
                  obtain ⟨j, rfl, HJ, HF, HEj⟩ := hrel
                  have hj1 := HJ.out.2
                  have hfl := flat_le b0 ee.wd hwd ee.nums j hne
                  rcases Nat.lt_or_ge j ee.nums.length with hj | hj
                  ·
                    as_aux_lemma =>
                    have HSN := Aside0.mk (flat_snoc b0 ee.wd ee.nums j hj)
                    obtain ⟨adn, rfl, hcell⟩ := Kd.at_int HCE.out (j : Int) (by omega) (by omega)
                    rw [Int.toNat_natCast] at hcell
                    have hcn : wr.cell? (adn.add j) = some (.int .i64 (ee.nums.getD j 0)) := (HF.out.d.bel.cell (World.block_lt_of_cell? _ _ hcell)).trans hcell
                    generalize ee.nums.getD j 0 = vj at hcn HSN
                    clear hcell
                    have HGj := Aside0.mk ((HF.out.d.bel.block _ (blk_lt HGD.out)).trans HGD.out)
                    obtain ⟨d0, _, _, _, _, _, _, _, _, _, _⟩ := tiff_cells HGj.out
                    generalize hbs : ((ee.nums.take j).map (nb b0 ee.wd)).flatten = bsj at HF HSN hfl
                    clear hbs
                    go_wp2_with (first | (go_at_call 19; go_loud (refine (number_c b0 ee.wd hwd _ _).mono ?_); rintro e wa ⟨AQ, cQ, rfl, k1, k2⟩; have KQ := Aside0.mk k1; have HF2 := Aside0.mk (HF.out.below k2); have HE2 := Aside0.mk ((k2.block _ (blk_lt HEj.out)).trans HEj.out); clear k1 k2) | ((with_reducible refine gate_builtin (b := .append) (xs := #[.tmp 364, .tmp 369]) rfl ?_); at_builtin; go_loud (refine Kd.R_append_rows (Kd.int .u8) (w0 := w14) w14.heap.size rfl (.tmp 364) (.tmp 369) 26 5 (.int .u8 0) 1 rfl Tryd.underlying26 i5 rfl (by decide) (by omega) _ bsj _ _ _ _ (fun _ => True) (fun _ => False) rfl rfl HF2.out.b KQ.out (fun _ _ h => h) (fun _ h => h.elim) (fun k hk => trivial) HF2.out.d.bel HF2.out.d.bel.size (by omega) ?_); intro vn wn ho hb hg hat; have HF3 := Aside0.mk (HF2.out.bss ho hb hg hat); have HE3 := Aside0.mk (StD.keep HF2.out.b hg HE2.out (by decide)); clear ho hb hg hat))
                    go_roundg (ee.nums.length - (j + 1))
                    case measure => have := HJ.out; omega
                    case rel => exact ⟨j + 1, by go_num, ⟨rfl, by omega⟩, ⟨by rw [HSN.out]; exact HF3.out⟩, HE3⟩
                  ·
                    obtain rfl : ee.nums.length = j := by omega
                    rw [List.take_length] at HF hfl
                    obtain ⟨A31, c31, rfl, _, _⟩ := Kd.R_reads HF.out.d.tail
                    obtain ⟨A35, c35, rfl, _, _⟩ := Kd.R_reads HF.out.b
                    generalize hbs : (ee.nums.map (nb b0 ee.wd)).flatten = bs at HF hfl ⊢
                    have HBS : Aside0 (bs = ee.bytes b0) := ⟨hbs.symm⟩
                    clear hbs
                    have hpr : (P1 ++ RW).length ≤ 12001000 := by rw [List.length_append]; omega
                    go_upto_region 84 with (fail)
                    go_cut [28] from 372 to 391 (fun v28 wx => Aside0 (StF w14 v28 (.slice A31 TL.length c31) (.slice A35 bs.length c35) ((((P1 ++ RW) ++ nb b0 2 ee.tag) ++ nb b0 2 ee.kind) ++ nb b0 4 (ee.nums.length : Int)) TL bs wx))
                    case first =>
                      as_aux_lemma =>
                      have hb1 : wr.drew.heap[W.heap.size]? = some (boxOf b0 wide high x3 x4 x5 x6 b7 tw th rows) ∧ wr.drew.heap[g33]? = some (.cells #[.int .i64 ee.tag, .int .i64 ee.kind, .slice AE ee.nums.length cE] 52 (0, 0)) := ⟨(HF.out.d.bel.block _ (blk_lt HGD.out)).trans HGD.out, HEj.out⟩
                      have HF1 := Aside0.mk (HF.out.below (Below.refl _ wr).drew)
                      refine start_ (n := 21) (S := fun w' => w'.heap[W.heap.size]? = some (boxOf b0 wide high x3 x4 x5 x6 b7 tw th rows) ∧ w'.heap[g33]? = some (.cells #[.int .i64 ee.tag, .int .i64 ee.kind, .slice AE ee.nums.length cE] 52 (0, 0))) (ds := []) #[false, false, false, false, false, false, false, false, false, false, false, false, false, false, false, false, false, false, false, false, false] (by kernel_rfl) rfl rfl hb1 (fun hh0 => ?_)
                      generalize wr.drew = wd at HF1 hh0 ⊢
                      refine pure_ (i := 0) (N := some 372) (v := ?_) (a' := ?_) #[true, false, false, false, false, false, false, false, false, false, false, false, false, false, false, false, false, false, false, false, false] rfl rfl (by kernel_rfl) (fun _ _ _ h => h) (Or.inl ⟨by rfl, ?_⟩) ?_ ?_
                      rotate_left
                      · intro w'
                        go_simp
                        with_reducible rfl
                      rotate_left
                      · simp only [Act.put, List.setIfInBounds_toArray, List.set_cons_zero, List.set_cons_succ, i64_w, i32_w]
                        rfl
                      refine pure_ (i := 1) (N := some 373) (v := ?_) (a' := ?_) #[true, true, false, false, false, false, false, false, false, false, false, false, false, false, false, false, false, false, false, false, false] rfl rfl (by kernel_rfl) (fun _ _ _ h => h) (Or.inl ⟨by rfl, ?_⟩) ?_ ?_
                      rotate_left
                      · intro w'
                        go_simp
                        with_reducible rfl
                      rotate_left
                      · simp only [Act.put, List.setIfInBounds_toArray, List.set_cons_zero, List.set_cons_succ, i64_w, i32_w]
                        rfl
                      refine take_ (i := 2) (N := some 374) (v := ?_) (a' := ?_) #[true, true, true, false, false, false, false, false, false, false, false, false, false, false, false, false, false, false, false, false, false] rfl rfl (by kernel_rfl) (fun _ _ _ h => h) (Or.inl ⟨by rfl, ?_⟩) hh0 ?_ ?_
                      rotate_left
                      · rintro w' ⟨s2, s3⟩
                        obtain ⟨c0, c1, c2, c3, c4, c5, c6, c7, c8, c9, c10⟩ := tiff_cells s2
                        obtain ⟨f0, f1, f2⟩ := ent_cells s3
                        go_simp
                        with_reducible rfl
                      rotate_left
                      · simp only [Act.put, List.setIfInBounds_toArray, List.set_cons_zero, List.set_cons_succ, i64_w, i32_w]
                        rfl
                      refine pure_ (i := 3) (N := some 375) (v := ?_) (a' := ?_) #[true, true, true, true, false, false, false, false, false, false, false, false, false, false, false, false, false, false, false, false, false] rfl rfl (by kernel_rfl) (fun _ _ _ h => h) (Or.inl ⟨by rfl, ?_⟩) ?_ ?_
                      rotate_left
                      · intro w'
                        go_simp
                        with_reducible rfl
                      rotate_left
                      · simp only [Act.put, List.setIfInBounds_toArray, List.set_cons_zero, List.set_cons_succ, i64_w, i32_w]
                        rfl
                      refine take_ (i := 4) (N := some 376) (v := ?_) (a' := ?_) #[true, true, true, true, true, false, false, false, false, false, false, false, false, false, false, false, false, false, false, false, false] rfl rfl (by kernel_rfl) (fun _ _ _ h => h) (Or.inl ⟨by rfl, ?_⟩) hh0 ?_ ?_
                      rotate_left
                      · rintro w' ⟨s2, s3⟩
                        obtain ⟨c0, c1, c2, c3, c4, c5, c6, c7, c8, c9, c10⟩ := tiff_cells s2
                        obtain ⟨f0, f1, f2⟩ := ent_cells s3
                        go_simp
                        with_reducible rfl
                      rotate_left
                      · simp only [Act.put, List.setIfInBounds_toArray, List.set_cons_zero, List.set_cons_succ, i64_w, i32_w]
                        rfl
                      refine pure_ (i := 7) (N := some 379) (v := ?_) (a' := ?_) #[true, true, true, true, true, false, false, true, false, false, false, false, false, false, false, false, false, false, false, false, false] rfl rfl (by kernel_rfl) (fun _ _ _ h => h) (Or.inl ⟨by rfl, ?_⟩) ?_ ?_
                      rotate_left
                      · intro w'
                        go_simp
                        with_reducible rfl
                      rotate_left
                      · simp only [Act.put, List.setIfInBounds_toArray, List.set_cons_zero, List.set_cons_succ, i64_w, i32_w]
                        rfl
                      refine take_ (i := 8) (N := some 380) (v := ?_) (a' := ?_) #[true, true, true, true, true, false, false, true, true, false, false, false, false, false, false, false, false, false, false, false, false] rfl rfl (by kernel_rfl) (fun _ _ _ h => h) (Or.inl ⟨by rfl, ?_⟩) hh0 ?_ ?_
                      rotate_left
                      · rintro w' ⟨s2, s3⟩
                        obtain ⟨c0, c1, c2, c3, c4, c5, c6, c7, c8, c9, c10⟩ := tiff_cells s2
                        obtain ⟨f0, f1, f2⟩ := ent_cells s3
                        go_simp
                        with_reducible rfl
                      rotate_left
                      · simp only [Act.put, List.setIfInBounds_toArray, List.set_cons_zero, List.set_cons_succ, i64_w, i32_w]
                        rfl
                      refine pure_ (i := 9) (N := some 381) (v := ?_) (a' := ?_) #[true, true, true, true, true, false, false, true, true, true, false, false, false, false, false, false, false, false, false, false, false] rfl rfl (by kernel_rfl) (fun _ _ _ h => h) (Or.inl ⟨by rfl, ?_⟩) ?_ ?_
                      rotate_left
                      · intro w'
                        go_simp
                        with_reducible rfl
                      rotate_left
                      · simp only [Act.put, List.setIfInBounds_toArray, List.set_cons_zero, List.set_cons_succ, i64_w, i32_w]
                        rfl
                      refine take_ (i := 10) (N := some 382) (v := ?_) (a' := ?_) #[true, true, true, true, true, false, false, true, true, true, true, false, false, false, false, false, false, false, false, false, false] rfl rfl (by kernel_rfl) (fun _ _ _ h => h) (Or.inl ⟨by rfl, ?_⟩) hh0 ?_ ?_
                      rotate_left
                      · rintro w' ⟨s2, s3⟩
                        obtain ⟨c0, c1, c2, c3, c4, c5, c6, c7, c8, c9, c10⟩ := tiff_cells s2
                        obtain ⟨f0, f1, f2⟩ := ent_cells s3
                        go_simp
                        with_reducible rfl
                      rotate_left
                      · simp only [Act.put, List.setIfInBounds_toArray, List.set_cons_zero, List.set_cons_succ, i64_w, i32_w]
                        rfl
                      refine pure_ (i := 13) (N := some 385) (v := ?_) (a' := ?_) #[true, true, true, true, true, false, false, true, true, true, true, false, false, true, false, false, false, false, false, false, false] rfl rfl (by kernel_rfl) (fun _ _ _ h => h) (Or.inl ⟨by rfl, ?_⟩) ?_ ?_
                      rotate_left
                      · intro w'
                        go_simp
                        with_reducible rfl
                      rotate_left
                      · simp only [Act.put, List.setIfInBounds_toArray, List.set_cons_zero, List.set_cons_succ, i64_w, i32_w]
                        rfl
                      refine take_ (i := 14) (N := some 386) (v := ?_) (a' := ?_) #[true, true, true, true, true, false, false, true, true, true, true, false, false, true, true, false, false, false, false, false, false] rfl rfl (by kernel_rfl) (fun _ _ _ h => h) (Or.inl ⟨by rfl, ?_⟩) hh0 ?_ ?_
                      rotate_left
                      · rintro w' ⟨s2, s3⟩
                        obtain ⟨c0, c1, c2, c3, c4, c5, c6, c7, c8, c9, c10⟩ := tiff_cells s2
                        obtain ⟨f0, f1, f2⟩ := ent_cells s3
                        go_simp
                        with_reducible rfl
                      rotate_left
                      · simp only [Act.put, List.setIfInBounds_toArray, List.set_cons_zero, List.set_cons_succ, i64_w, i32_w]
                        rfl
                      refine pure_ (i := 15) (N := some 387) (v := ?_) (a' := ?_) #[true, true, true, true, true, false, false, true, true, true, true, false, false, true, true, true, false, false, false, false, false] rfl rfl (by kernel_rfl) (fun _ _ _ h => h) (Or.inl ⟨by rfl, ?_⟩) ?_ ?_
                      rotate_left
                      · intro w'
                        go_simp
                        with_reducible rfl
                      rotate_left
                      · simp only [Act.put, List.setIfInBounds_toArray, List.set_cons_zero, List.set_cons_succ, i64_w, i32_w]
                        rfl
                      refine take_ (i := 16) (N := some 388) (v := ?_) (a' := ?_) #[true, true, true, true, true, false, false, true, true, true, true, false, false, true, true, true, true, false, false, false, false] rfl rfl (by kernel_rfl) (fun _ _ _ h => h) (Or.inl ⟨by rfl, ?_⟩) hh0 ?_ ?_
                      rotate_left
                      · rintro w' ⟨s2, s3⟩
                        obtain ⟨c0, c1, c2, c3, c4, c5, c6, c7, c8, c9, c10⟩ := tiff_cells s2
                        obtain ⟨f0, f1, f2⟩ := ent_cells s3
                        go_simp
                        with_reducible rfl
                      rotate_left
                      · simp only [Act.put, List.setIfInBounds_toArray, List.set_cons_zero, List.set_cons_succ, i64_w, i32_w]
                        rfl
                      refine pure_ (i := 17) (N := some 389) (v := ?_) (a' := ?_) #[true, true, true, true, true, false, false, true, true, true, true, false, false, true, true, true, true, true, false, false, false] rfl rfl (by kernel_rfl) (fun _ _ _ h => h) (Or.inl ⟨by rfl, ?_⟩) ?_ ?_
                      rotate_left
                      · intro w'
                        go_simp
                        with_reducible rfl
                      rotate_left
                      · simp only [Act.put, List.setIfInBounds_toArray, List.set_cons_zero, List.set_cons_succ, i64_w, i32_w]
                        rfl
                      refine one_ (i := 5) (N := some 377) #[true, true, true, true, true, true, false, true, true, true, true, false, false, true, true, true, true, true, false, false, false] rfl rfl (by kernel_rfl) (by decide) (fun K hK => ?_)
                      refine goes_ Tryd.func19 (by kernel_rfl) rfl #[.bool b0, .int .i64 2, .int .i64 ee.tag] (by rfl) rfl rfl (by simp [Act.eval]) ?_
                      refine (number_c b0 2 (by omega) _ _).mono ?_
                      rintro e wd1 ⟨AQ, cQ, rfl, k1, k2⟩
                      refine ⟨_, rfl, ?_⟩
                      have KQ1 := Aside0.mk k1
                      have HF2 := Aside0.mk (HF1.out.below k2)
                      refine hK.out _ _ ⟨(k2.block _ (blk_lt hh0.1)).trans hh0.1, (k2.block _ (blk_lt hh0.2)).trans hh0.2⟩ (fun hh1 => ?_)
                      clear hK K k1 k2
                      refine norm_ (a' := ?_) ?_ ?_
                      rotate_left
                      · show Act.put _ (some 377) _ = _
                        simp only [Act.put, List.setIfInBounds_toArray, List.set_cons_zero, List.set_cons_succ, i64_w, i32_w]
                        rfl
                      refine one_ (i := 6) (N := some 378) #[true, true, true, true, true, true, true, true, true, true, true, false, false, true, true, true, true, true, false, false, false] rfl rfl (by kernel_rfl) (by decide) (fun K hK => ?_)
                      refine Kd.R_append_rows_step (Kd.int .u8) (w0 := w14) w14.heap.size (by rfl) (.tmp 372) (.tmp 377) 26 5 (.int .u8 0) 1 rfl Tryd.underlying26 i5 rfl (by decide) (by omega) _ _ (nb b0 2 ee.tag) _ _ _ (fun _ => True) (fun _ => False) rfl rfl HF2.out.d.out KQ1.out (fun _ _ h => h) (fun _ h => h.elim) (fun k hk => trivial) HF2.out.d.bel HF2.out.d.bel.size (by simp [nb_length]; omega) ?_
                      intro vq1 wd2 ho hb hg hat
                      have HF3 := Aside0.mk (HF2.out.outs ho hb hg hat)
                      refine hK.out _ _ ⟨StD.keep HF2.out.d.out hg hh1.1 (by decide), StD.keep HF2.out.d.out hg hh1.2 (by decide)⟩ (fun hh2 => ?_)
                      clear hK K ho hb hg hat
                      refine norm_ (a' := ?_) ?_ ?_
                      rotate_left
                      · show Act.put _ (some 378) _ = _
                        simp only [Act.put, List.setIfInBounds_toArray, List.set_cons_zero, List.set_cons_succ, i64_w, i32_w]
                        rfl
                      refine one_ (i := 11) (N := some 383) #[true, true, true, true, true, true, true, true, true, true, true, true, false, true, true, true, true, true, false, false, false] rfl rfl (by kernel_rfl) (by decide) (fun K hK => ?_)
                      refine goes_ Tryd.func19 (by kernel_rfl) rfl #[.bool b0, .int .i64 2, .int .i64 ee.kind] (by rfl) rfl rfl (by simp [Act.eval]) ?_
                      refine (number_c b0 2 (by omega) _ _).mono ?_
                      rintro e wd3 ⟨AQ, cQ, rfl, k1, k2⟩
                      refine ⟨_, rfl, ?_⟩
                      have KQ2 := Aside0.mk k1
                      have HF4 := Aside0.mk (HF3.out.below k2)
                      refine hK.out _ _ ⟨(k2.block _ (blk_lt hh2.1)).trans hh2.1, (k2.block _ (blk_lt hh2.2)).trans hh2.2⟩ (fun hh3 => ?_)
                      clear hK K k1 k2
                      refine norm_ (a' := ?_) ?_ ?_
                      rotate_left
                      · show Act.put _ (some 383) _ = _
                        simp only [Act.put, List.setIfInBounds_toArray, List.set_cons_zero, List.set_cons_succ, i64_w, i32_w]
                        rfl
                      refine one_ (i := 12) (N := some 384) #[true, true, true, true, true, true, true, true, true, true, true, true, true, true, true, true, true, true, false, false, false] rfl rfl (by kernel_rfl) (by decide) (fun K hK => ?_)
                      refine Kd.R_append_rows_step (Kd.int .u8) (w0 := w14) w14.heap.size (by rfl) (.tmp 378) (.tmp 383) 26 5 (.int .u8 0) 1 rfl Tryd.underlying26 i5 rfl (by decide) (by omega) _ _ (nb b0 2 ee.kind) _ _ _ (fun _ => True) (fun _ => False) rfl rfl HF4.out.d.out KQ2.out (fun _ _ h => h) (fun _ h => h.elim) (fun k hk => trivial) HF4.out.d.bel HF4.out.d.bel.size (by simp [nb_length]; omega) ?_
                      intro vq2 wd4 ho hb hg hat
                      have HF5 := Aside0.mk (HF4.out.outs ho hb hg hat)
                      refine hK.out _ _ ⟨StD.keep HF4.out.d.out hg hh3.1 (by decide), StD.keep HF4.out.d.out hg hh3.2 (by decide)⟩ (fun hh4 => ?_)
                      clear hK K ho hb hg hat
                      refine norm_ (a' := ?_) ?_ ?_
                      rotate_left
                      · show Act.put _ (some 384) _ = _
                        simp only [Act.put, List.setIfInBounds_toArray, List.set_cons_zero, List.set_cons_succ, i64_w, i32_w]
                        rfl
                      refine one_ (i := 18) (N := some 390) #[true, true, true, true, true, true, true, true, true, true, true, true, true, true, true, true, true, true, true, false, false] rfl rfl (by kernel_rfl) (by decide) (fun K hK => ?_)
                      refine goes_ Tryd.func19 (by kernel_rfl) rfl #[.bool b0, .int .i64 4, .int .i64 (ee.nums.length : Int)] (by rfl) rfl rfl (by simp [Act.eval]) ?_
                      refine (number_c b0 4 (by omega) _ _).mono ?_
                      rintro e wd5 ⟨AQ, cQ, rfl, k1, k2⟩
                      refine ⟨_, rfl, ?_⟩
                      have KQ3 := Aside0.mk k1
                      have HF6 := Aside0.mk (HF5.out.below k2)
                      refine hK.out _ _ ⟨(k2.block _ (blk_lt hh4.1)).trans hh4.1, (k2.block _ (blk_lt hh4.2)).trans hh4.2⟩ (fun hh5 => ?_)
                      clear hK K k1 k2
                      refine norm_ (a' := ?_) ?_ ?_
                      rotate_left
                      · show Act.put _ (some 390) _ = _
                        simp only [Act.put, List.setIfInBounds_toArray, List.set_cons_zero, List.set_cons_succ, i64_w, i32_w]
                        rfl
                      refine one_ (i := 19) (N := some 391) #[true, true, true, true, true, true, true, true, true, true, true, true, true, true, true, true, true, true, true, true, false] rfl rfl (by kernel_rfl) (by decide) (fun K hK => ?_)
                      refine Kd.R_append_rows_step (Kd.int .u8) (w0 := w14) w14.heap.size (by rfl) (.tmp 384) (.tmp 390) 26 5 (.int .u8 0) 1 rfl Tryd.underlying26 i5 rfl (by decide) (by omega) _ _ (nb b0 4 (ee.nums.length : Int)) _ _ _ (fun _ => True) (fun _ => False) rfl rfl HF6.out.d.out KQ3.out (fun _ _ h => h) (fun _ h => h.elim) (fun k hk => trivial) HF6.out.d.bel HF6.out.d.bel.size (by simp [nb_length]; omega) ?_
                      intro vq3 wd6 ho hb hg hat
                      have HF7 := Aside0.mk (HF6.out.outs ho hb hg hat)
                      refine hK.out _ _ ⟨StD.keep HF6.out.d.out hg hh5.1 (by decide), StD.keep HF6.out.d.out hg hh5.2 (by decide)⟩ (fun hh6 => ?_)
                      clear hK K ho hb hg hat
                      refine norm_ (a' := ?_) ?_ ?_
                      rotate_left
                      · show Act.put _ (some 391) _ = _
                        simp only [Act.put, List.setIfInBounds_toArray, List.set_cons_zero, List.set_cons_succ, i64_w, i32_w]
                        rfl
                      refine pure_ (i := 20) (N := some 28) (v := ?_) (a' := ?_) #[true, true, true, true, true, true, true, true, true, true, true, true, true, true, true, true, true, true, true, true, true] rfl rfl (by kernel_rfl) (fun _ _ _ h => h) (Or.inl ⟨by rfl, ?_⟩) ?_ ?_
                      rotate_left
                      · intro w'
                        go_simp
                        with_reducible rfl
                      rotate_left
                      · simp only [Act.put, List.setIfInBounds_toArray, List.set_cons_zero, List.set_cons_succ, i64_w, i32_w]
                        rfl
                      refine done_ (by kernel_rfl) ?_
                      go_wp2_with (fail)
                      go_meet
                      exact HF7
                    case rest =>
                    clear HF
                    have HF := hcut
                    clear hcut HEj
                    have HP2 : Aside0 (((((P1 ++ RW) ++ nb b0 2 ee.tag) ++ nb b0 2 ee.kind) ++ nb b0 4 (ee.nums.length : Int)).length ≤ 12001010) := ⟨by simp only [List.length_append, nb_length] at hpr ⊢; omega⟩
                    generalize hp2 : ((((P1 ++ RW) ++ nb b0 2 ee.tag) ++ nb b0 2 ee.kind) ++ nb b0 4 (ee.nums.length : Int)) = P2 at HF HP2
                    have HP2E := Aside0.mk hp2
                    have hp2l := HP2.out
                    clear hp2 HP2 hpr
                    have HDS := Aside0.mk (dir_step b0 mr es7 k ee HEE.out RW TL HRT.out)
                    by_cases hb4 : bs.length ≤ 4
                    ·
                      as_aux_lemma =>
                      have HF1 := HF
                      go_wp2_with (first | ((with_reducible refine gate_builtin (b := .append) (xs := #[.tmp 396, .tmp 399]) rfl ?_); at_builtin; go_loud (refine Kd.R_append_zeros (Kd.int .u8) (w0 := w14) w14.heap.size rfl (.tmp 396) (.tmp 399) 26 3 5 (.int .u8 0) 1 rfl Tryd.underlying26 Tryd.underlying3 i5 rfl (by decide) (by omega) _ bs (0 : Int) _ (fun _ => True) rfl rfl rfl (fun k hk => trivial) HF.out.b (by omega) HF.out.d.bel HF.out.d.bel.size (by omega) ?_); intro v4 w4 ho hb hg hat; obtain ⟨A4, c4, rfl, _, k3⟩ := Kd.R_reads ho; have KZ := Aside0.mk k3; have HF4 := Aside0.mk (HF.out.bss ho hb hg hat); clear ho hb hg hat k3) | ((with_reducible refine gate_builtin (b := .append) (xs := #[.tmp 395, .tmp 400]) rfl ?_); at_builtin; go_loud (refine Kd.R_append_rows (Kd.int .u8) (w0 := w14) w14.heap.size rfl (.tmp 395) (.tmp 400) 26 5 (.int .u8 0) 1 rfl Tryd.underlying26 i5 rfl (by decide) (by omega) _ P2 _ _ _ _ (fun _ => True) (fun _ => False) rfl rfl HF4.out.d.out KZ.out (fun _ _ h => h) (fun _ h => h.elim) (fun k hk => trivial) HF4.out.d.bel HF4.out.d.bel.size (by simp; omega) ?_); intro v5 w5 ho hb hg hat; have HF5 := Aside0.mk (HF4.out.outs ho hb hg hat); clear ho hb hg hat))
                      go_roundg (es7.length - (k + 1))
                      case measure => have := HK.out; omega
                      case rel => exact ⟨k + 1, by go_num, ⟨rfl, by omega⟩, ⟨by rw [HDS.out.1, HDS.out.2, row_short b0 _ ee P1 RW (by rw [← HBS.out]; exact hb4), behind_short b0 TL ee (by rw [← HBS.out]; exact hb4), HP2E.out, ← HBS.out]; exact HF5.out.d⟩⟩
                    ·
                      as_aux_lemma =>
                      have HGj := Aside0.mk ((HF.out.d.bel.block _ (blk_lt HGD.out)).trans HGD.out)
                      obtain ⟨d0, _, _, _, _, _, _, _, _, _, _⟩ := tiff_cells HGj.out
                      have HBSC := Aside0.mk (fun (w : World) (h : Kd.R (Kd.int .u8) 5 w w14.heap.size (fun _ => True) (.slice A35 bs.length c35) bs) => (Kd.R_reads' h).2.2)
                      go_upto_if 417 with (first | (go_at_call 19; go_loud (refine (number_c b0 4 (by omega) _ _).mono ?_); rintro e wa ⟨AQ, cQ, rfl, k1, k2⟩; have KQ := Aside0.mk k1; have HF2 := Aside0.mk (HF.out.below k2); clear k1 k2) | ((with_reducible refine gate_builtin (b := .append) (xs := #[.tmp 402, .tmp 409]) rfl ?_); at_builtin; go_loud (refine Kd.R_append_rows (Kd.int .u8) (w0 := w14) w14.heap.size rfl (.tmp 402) (.tmp 409) 26 5 (.int .u8 0) 1 rfl Tryd.underlying26 i5 rfl (by decide) (by omega) _ P2 _ _ _ _ (fun _ => True) (fun _ => False) rfl rfl HF2.out.d.out KQ.out (fun _ _ h => h) (fun _ h => h.elim) (fun k hk => trivial) HF2.out.d.bel HF2.out.d.bel.size (by omega) ?_); intro v5 w5 ho hb hg hat; have HF5 := Aside0.mk (HF2.out.outs ho hb hg hat); have KB := Aside0.mk (HBSC.out _ HF5.out.b); clear ho hb hg hat) | ((with_reducible refine gate_builtin (b := .append) (xs := #[.tmp 411, .tmp 412]) rfl ?_); at_builtin; go_loud (refine Kd.R_append_rows (Kd.int .u8) (w0 := w14) w14.heap.size rfl (.tmp 411) (.tmp 412) 26 5 (.int .u8 0) 1 rfl Tryd.underlying26 i5 rfl (by decide) (by omega) _ TL bs _ _ _ (fun _ => True) (fun _ => False) rfl rfl HF5.out.d.tail KB.out (fun _ _ h => h) (fun _ h => h.elim) (fun k hk => trivial) HF5.out.d.bel HF5.out.d.bel.size (by omega) ?_); intro v6 w6 ho hb hg hat; generalize htb : TL ++ bs = TB at ho; have HTB := Aside0.mk htb; obtain ⟨A6, c6, rfl, _, _⟩ := Kd.R_reads ho; have HF6 := Aside0.mk (HF5.out.tails ho hb hg hat).d; clear ho hb hg hat htb))
                      obtain ⟨b417, h417⟩ : ∃ b : Bool, b = ((TB.length : Int) % 2 == 1) := ⟨_, rfl⟩
                      rw [← h417]
                      have T417 := Aside0.mk h417
                      have htbl : TB.length ≤ 68000 := by rw [← HTB.out, List.length_append]; omega
                      clear h417 HF2 HF5 HF
                      cases b417
                      · have hod : Aside0 (¬ TB.length % 2 = 1) := ⟨by intro h2; have h := T417.out; rw [eq_comm, beq_eq_false_iff_ne] at h; omega⟩
                        go_wp2_with (fail)
                        go_roundg (es7.length - (k + 1))
                        case measure => have := HK.out; omega
                        case rel => exact ⟨k + 1, by go_num, ⟨rfl, by omega⟩, ⟨by rw [HDS.out.1, HDS.out.2, row_long b0 _ ee P1 RW (8 + (rs.length : Int) + 2 + 12 * (es7.length : Int) + 4 + (TL.length : Int)) (by have h := HMR.out; unfold moreF at h; omega) (by rw [← HBS.out]; exact hb4), behind_long b0 TL ee (by rw [← HBS.out]; exact hb4), HP2E.out, ← HBS.out, HTB.out, if_neg hod.out]; exact HF6.out⟩⟩
                      · have hod : Aside0 (TB.length % 2 = 1) := ⟨by have h := T417.out; rw [eq_comm, beq_iff_eq] at h; omega⟩
                        go_wp2_with ((with_reducible refine gate_builtin (b := .append) (xs := #[.tmp 418, .tmp 419]) rfl ?_); at_builtin; go_loud (refine Kd.R_append (Kd.int .u8) (w0 := w14) w14.heap.size rfl (.tmp 418) (.tmp 419) 26 5 (.int .u8 0) 1 rfl Tryd.underlying26 i5 rfl (by decide) (by omega) _ TB 0 [.int .u8 0] (fun _ => True) (fun _ => False) rfl rfl rfl (fun _ h => h.elim) (fun k hk => trivial) HF6.out.tail HF6.out.bel HF6.out.bel.size (by omega) ?_); intro v7 w7 ho hb hg hat; have HF7 := Aside0.mk (HF6.out.tails ho hb hg hat); clear ho hb hg hat)
                        go_roundg (es7.length - (k + 1))
                        case measure => have := HK.out; omega
                        case rel => exact ⟨k + 1, by go_num, ⟨rfl, by omega⟩, ⟨by rw [HDS.out.1, HDS.out.2, row_long b0 _ ee P1 RW (8 + (rs.length : Int) + 2 + 12 * (es7.length : Int) + 4 + (TL.length : Int)) (by have h := HMR.out; unfold moreF at h; omega) (by rw [← HBS.out]; exact hb4), behind_long b0 TL ee (by rw [← HBS.out]; exact hb4), HP2E.out, ← HBS.out, HTB.out, if_pos hod.out]; exact HF7.out⟩⟩
               ·
                 as_aux_lemma =>
                 obtain rfl : es7.length = k := by omega
                 rw [List.take_length] at HT
                 obtain ⟨A31, c31, rfl, _, _⟩ := Kd.R_reads HT.out.tail
                 have HW1 := Aside0.mk (HT.out.alloc (.cells #[.int .u8 0, .int .u8 0, .int .u8 0, .int .u8 0] 5))
                 have HL4 : Aside0 (Kd.C (Kd.int .u8) (wr.alloc (.cells #[.int .u8 0, .int .u8 0, .int .u8 0, .int .u8 0] 5)) (some ⟨wr.heap.size, 0, none⟩) 4 [0, 0, 0, 0]) := ⟨(Kd.R_reads' (R_new wr wr.heap.size [0, 0, 0, 0] (Nat.le_refl _) (by simp))).2.2⟩
                 have hdl := dirF_length b0 mr es7
                 have htl := tail_len b0 mr es7 (fun e he => (HOK.out e he).n2)
                 generalize hd1 : (dirF b0 mr es7).1 = RW at HW1 HT hdl
                 generalize hd2 : (dirF b0 mr es7).2 = TL at HW1 HT htl
                 have HD12 := Aside0.mk (And.intro hd1 hd2)
                 clear hd1 hd2 HT
                 have hpr : (P1 ++ RW).length ≤ 12001000 := by rw [List.length_append]; omega
                 generalize hpw : P1 ++ RW = PW at HW1 hpr
                 have HPW := Aside0.mk hpw
                 have hrwl : RW.length ≤ 192 := by omega
                 have HRWL := Aside0.mk hrwl
                 clear hpw hdl hrwl
                 go_wp2_with (first | ((with_reducible refine gate_builtin (b := .append) (xs := #[.tmp 422, .tmp 423]) rfl ?_); at_builtin; go_loud (refine Kd.R_append_rows (Kd.int .u8) (w0 := w14) w14.heap.size rfl (.tmp 422) (.tmp 423) 26 5 (.int .u8 0) 1 rfl Tryd.underlying26 i5 rfl (by decide) (by omega) _ PW [0, 0, 0, 0] _ _ _ (fun _ => True) (fun _ => False) rfl rfl HW1.out.out HL4.out (fun _ _ h => h) (fun _ h => h.elim) (fun k hk => trivial) HW1.out.bel HW1.out.bel.size (by omega) ?_); intro v5 w5 ho hb hg hat; have HW2 := Aside0.mk (HW1.out.outs ho hb hg hat); have KT := Aside0.mk (Kd.R_reads' HW2.out.tail).2.2; clear ho hb hg hat) | ((with_reducible refine gate_builtin (b := .append) (xs := #[.tmp 424, .tmp 425]) rfl ?_); at_builtin; go_loud (refine Kd.R_append_rows (Kd.int .u8) (w0 := w14) w14.heap.size rfl (.tmp 424) (.tmp 425) 26 5 (.int .u8 0) 1 rfl Tryd.underlying26 i5 rfl (by decide) (by omega) _ (PW ++ [0, 0, 0, 0]) TL _ _ _ (fun _ => True) (fun _ => False) rfl rfl HW2.out.out KT.out (fun _ _ h => h) (fun _ h => h.elim) (fun k hk => trivial) HW2.out.bel HW2.out.bel.size (by simp; omega) ?_); intro v6 w6 ho hb hg hat; have HO6 := Aside0.mk ho; have HB6 := Aside0.mk hb; clear ho hb hg hat))
                 obtain ⟨A8, c8, rfl, hc8, hC8⟩ := Kd.R_reads HO6.out
                 go_ret
                 refine ⟨rs, pl, sz, A8, c8, _, ⟨by have := HF2.out; omega, by have := HF2.out; omega, by have := HF2.out; omega, HF2.out.2.2.2.2.1, HF2.out.2.2.2.2.2⟩, HRS.out, ?_, ?_, rfl, hc8, hC8, HBD.out.trans (HB6.out.mono HBD.out.size)⟩
                 · rw [← HPW.out, ← HD12.out.1, ← HD12.out.2, HP1.out.1, HMR.out, ← HE8.out.1]
                   unfold fileF
                   rfl
                 · simp only [List.length_append, List.length_cons, List.length_nil]
                   omega
end Go.Proofs.YtnodmobblamlgaaDoor
