/- laws.shapeOf: what a picture of numbers is. -/
import Derived.Test.YtnodmobblamlgaaDoorESamples
import Derived.Deep.CutRange
import Derived.Deep.DeepCutAuto
namespace Go.Proofs.YtnodmobblamlgaaDoor
open Go.RowKit Go.Proofs.YtnodmobblamlgaaDoor.PFnConfig Go.Proofs.YtnodmobblamlgaaDoorW.PrintWords Go.Proofs.YtnodmobblamlgaaDoorW.PrintLast Go.Proofs.YtnodmobblamlgaaDoorW.PrintMore
set_option linter.unusedVariables false
set_option linter.unusedSimpArgs false

/-- What a Tiff's fields are, of the shapes that the set makes. -/
structure Shp (b0 : Bool) (wide high : Nat) (x3 x4 x5 x6 : Int) (b7 : Bool) (tw th rows : Nat) : Prop where
  w1 : 1 ≤ wide
  w2 : wide ≤ 96
  w3 : tw = 0 → wide ≤ 40
  h1 : 1 ≤ high
  h2 : high ≤ 40
  colour : 0 ≤ x3 ∧ x3 ≤ 3
  depth : x5 = 1 ∨ x5 = 8 ∨ x5 = 16
  d3 : x3 = 3 → x5 = 8
  d2 : x3 = 2 → x5 = 8 ∨ x5 = 16
  alpha : 0 ≤ x4 ∧ x4 ≤ 2
  a2 : x4 ≠ 0 → x3 = 2
  packing : x6 = 1 ∨ x6 = 5 ∨ x6 = 8 ∨ x6 = 32946 ∨ x6 = 32773
  ahead : b7 = true → (x5 = 8 ∨ x5 = 16) ∧ (x6 = 5 ∨ x6 = 8)
  r1 : 1 ≤ rows
  r2 : rows ≤ high
  tiles : (tw = 0 ∧ th = 0) ∨ ((tw = 16 ∨ tw = 32) ∧ (th = 16 ∨ th = 32))
  fits : tw ≠ 0 → wide = tw ∨ wide = 2 * tw ∨ wide = 3 * tw

theorem set11 {w : World} {g t : Nat} {z0 z1 z2 z3 z4 z5 z6 z7 z8 z9 z10 v0 v1 v2 v3 v4 v5 v6 v7 v8 v9 v10 : Value} (h : w.heap[g]? = some (.cells #[z0, z1, z2, z3, z4, z5, z6, z7, z8, z9, z10] t (0, 0))) :
    (((((((((((w.setCell ⟨g, 0, none⟩ v0).setCell ⟨g, 1, none⟩ v1).setCell ⟨g, 2, none⟩ v2).setCell ⟨g, 3, none⟩ v3).setCell ⟨g, 4, none⟩ v4).setCell ⟨g, 5, none⟩ v5).setCell ⟨g, 6, none⟩ v6).setCell ⟨g, 7, none⟩ v7).setCell ⟨g, 8, none⟩ v8).setCell ⟨g, 9, none⟩ v9).setCell ⟨g, 10, none⟩ v10).heap[g]? = some (.cells #[v0, v1, v2, v3, v4, v5, v6, v7, v8, v9, v10] t (0, 0)) := by
  have h0 : (w.setCell ⟨g, 0, none⟩ v0).heap[g]? = some (.cells #[v0, z1, z2, z3, z4, z5, z6, z7, z8, z9, z10] t (0, 0)) := blk_set h 0 v0
  have h1 : ((w.setCell ⟨g, 0, none⟩ v0).setCell ⟨g, 1, none⟩ v1).heap[g]? = some (.cells #[v0, v1, z2, z3, z4, z5, z6, z7, z8, z9, z10] t (0, 0)) := blk_set h0 1 v1
  have h2 : (((w.setCell ⟨g, 0, none⟩ v0).setCell ⟨g, 1, none⟩ v1).setCell ⟨g, 2, none⟩ v2).heap[g]? = some (.cells #[v0, v1, v2, z3, z4, z5, z6, z7, z8, z9, z10] t (0, 0)) := blk_set h1 2 v2
  have h3 : ((((w.setCell ⟨g, 0, none⟩ v0).setCell ⟨g, 1, none⟩ v1).setCell ⟨g, 2, none⟩ v2).setCell ⟨g, 3, none⟩ v3).heap[g]? = some (.cells #[v0, v1, v2, v3, z4, z5, z6, z7, z8, z9, z10] t (0, 0)) := blk_set h2 3 v3
  have h4 : (((((w.setCell ⟨g, 0, none⟩ v0).setCell ⟨g, 1, none⟩ v1).setCell ⟨g, 2, none⟩ v2).setCell ⟨g, 3, none⟩ v3).setCell ⟨g, 4, none⟩ v4).heap[g]? = some (.cells #[v0, v1, v2, v3, v4, z5, z6, z7, z8, z9, z10] t (0, 0)) := blk_set h3 4 v4
  have h5 : ((((((w.setCell ⟨g, 0, none⟩ v0).setCell ⟨g, 1, none⟩ v1).setCell ⟨g, 2, none⟩ v2).setCell ⟨g, 3, none⟩ v3).setCell ⟨g, 4, none⟩ v4).setCell ⟨g, 5, none⟩ v5).heap[g]? = some (.cells #[v0, v1, v2, v3, v4, v5, z6, z7, z8, z9, z10] t (0, 0)) := blk_set h4 5 v5
  have h6 : (((((((w.setCell ⟨g, 0, none⟩ v0).setCell ⟨g, 1, none⟩ v1).setCell ⟨g, 2, none⟩ v2).setCell ⟨g, 3, none⟩ v3).setCell ⟨g, 4, none⟩ v4).setCell ⟨g, 5, none⟩ v5).setCell ⟨g, 6, none⟩ v6).heap[g]? = some (.cells #[v0, v1, v2, v3, v4, v5, v6, z7, z8, z9, z10] t (0, 0)) := blk_set h5 6 v6
  have h7 : ((((((((w.setCell ⟨g, 0, none⟩ v0).setCell ⟨g, 1, none⟩ v1).setCell ⟨g, 2, none⟩ v2).setCell ⟨g, 3, none⟩ v3).setCell ⟨g, 4, none⟩ v4).setCell ⟨g, 5, none⟩ v5).setCell ⟨g, 6, none⟩ v6).setCell ⟨g, 7, none⟩ v7).heap[g]? = some (.cells #[v0, v1, v2, v3, v4, v5, v6, v7, z8, z9, z10] t (0, 0)) := blk_set h6 7 v7
  have h8 : (((((((((w.setCell ⟨g, 0, none⟩ v0).setCell ⟨g, 1, none⟩ v1).setCell ⟨g, 2, none⟩ v2).setCell ⟨g, 3, none⟩ v3).setCell ⟨g, 4, none⟩ v4).setCell ⟨g, 5, none⟩ v5).setCell ⟨g, 6, none⟩ v6).setCell ⟨g, 7, none⟩ v7).setCell ⟨g, 8, none⟩ v8).heap[g]? = some (.cells #[v0, v1, v2, v3, v4, v5, v6, v7, v8, z9, z10] t (0, 0)) := blk_set h7 8 v8
  have h9 : ((((((((((w.setCell ⟨g, 0, none⟩ v0).setCell ⟨g, 1, none⟩ v1).setCell ⟨g, 2, none⟩ v2).setCell ⟨g, 3, none⟩ v3).setCell ⟨g, 4, none⟩ v4).setCell ⟨g, 5, none⟩ v5).setCell ⟨g, 6, none⟩ v6).setCell ⟨g, 7, none⟩ v7).setCell ⟨g, 8, none⟩ v8).setCell ⟨g, 9, none⟩ v9).heap[g]? = some (.cells #[v0, v1, v2, v3, v4, v5, v6, v7, v8, v9, z10] t (0, 0)) := blk_set h8 9 v9
  have h10 : (((((((((((w.setCell ⟨g, 0, none⟩ v0).setCell ⟨g, 1, none⟩ v1).setCell ⟨g, 2, none⟩ v2).setCell ⟨g, 3, none⟩ v3).setCell ⟨g, 4, none⟩ v4).setCell ⟨g, 5, none⟩ v5).setCell ⟨g, 6, none⟩ v6).setCell ⟨g, 7, none⟩ v7).setCell ⟨g, 8, none⟩ v8).setCell ⟨g, 9, none⟩ v9).setCell ⟨g, 10, none⟩ v10).heap[g]? = some (.cells #[v0, v1, v2, v3, v4, v5, v6, v7, v8, v9, v10] t (0, 0)) := blk_set h9 10 v10
  exact h10
theorem below11 {B : Nat} {a w : World} {g : Nat} {v0 v1 v2 v3 v4 v5 v6 v7 v8 v9 v10 : Value} (h : Below B a w) (hg : B ≤ g) : Below B a (((((((((((w.setCell ⟨g, 0, none⟩ v0).setCell ⟨g, 1, none⟩ v1).setCell ⟨g, 2, none⟩ v2).setCell ⟨g, 3, none⟩ v3).setCell ⟨g, 4, none⟩ v4).setCell ⟨g, 5, none⟩ v5).setCell ⟨g, 6, none⟩ v6).setCell ⟨g, 7, none⟩ v7).setCell ⟨g, 8, none⟩ v8).setCell ⟨g, 9, none⟩ v9).setCell ⟨g, 10, none⟩ v10) := by
  exact (((((((((((h.setCell (p := ⟨g, 0, none⟩) hg v0).setCell (p := ⟨g, 1, none⟩) hg v1).setCell (p := ⟨g, 2, none⟩) hg v2).setCell (p := ⟨g, 3, none⟩) hg v3).setCell (p := ⟨g, 4, none⟩) hg v4).setCell (p := ⟨g, 5, none⟩) hg v5).setCell (p := ⟨g, 6, none⟩) hg v6).setCell (p := ⟨g, 7, none⟩) hg v7).setCell (p := ⟨g, 8, none⟩) hg v8).setCell (p := ⟨g, 9, none⟩) hg v9).setCell (p := ⟨g, 10, none⟩) hg v10)
/-- The two variables of shapeOf: the result's, and the one that it works on. -/
structure Sh0 (W w : World) (b0 : Bool) (wide high : Nat) (x3 x4 x5 x6 : Int) (b7 : Bool) (tw th rows : Nat) : Prop where
  blk : w.heap[W.heap.size + 1]? = some (.cells #[.bool b0, .int .i64 wide, .int .i64 high, .int .i64 x3, .int .i64 x4, .int .i64 x5, .int .i64 x6, .bool b7, .int .i64 tw, .int .i64 th, .int .i64 rows] 24 (0, 0))
  zer : w.heap[W.heap.size]? = some (.cells #[.bool false, .int .i64 0, .int .i64 0, .int .i64 0, .int .i64 0, .int .i64 0, .int .i64 0, .bool false, .int .i64 0, .int .i64 0, .int .i64 0] 24 (0, 0))
  below : Below W.heap.size W w
namespace Sh0
variable {W w : World} {b0 : Bool} {wide high : Nat} {x3 x4 x5 x6 : Int} {b7 : Bool} {tw th rows : Nat}
theorem alloc (h : Sh0 W w b0 wide high x3 x4 x5 x6 b7 tw th rows) (o : Obj) : Sh0 W (w.alloc o) b0 wide high x3 x4 x5 x6 b7 tw th rows :=
  ⟨blk_alloc h.blk o, blk_alloc h.zer o, h.below.alloc h.below.size o⟩
theorem store (h : Sh0 W w b0 wide high x3 x4 x5 x6 b7 tw th rows) (i : Nat) (v : Value) {b0' : Bool} {wide' high' : Nat} {x3' x4' x5' x6' : Int} {b7' : Bool} {tw' th' rows' : Nat}
    (he : (#[.bool b0, .int .i64 wide, .int .i64 high, .int .i64 x3, .int .i64 x4, .int .i64 x5, .int .i64 x6, .bool b7, .int .i64 tw, .int .i64 th, .int .i64 rows] : Array Value).setIfInBounds i v = #[.bool b0', .int .i64 wide', .int .i64 high', .int .i64 x3', .int .i64 x4', .int .i64 x5', .int .i64 x6', .bool b7', .int .i64 tw', .int .i64 th', .int .i64 rows']) :
    Sh0 W (w.setCell ⟨W.heap.size + 1, i, none⟩ v) b0' wide' high' x3' x4' x5' x6' b7' tw' th' rows' := by
  obtain ⟨t1, t2⟩ := Turn.set h.blk i v
  rw [he] at t2
  exact ⟨t2, t1.blk h.zer (by omega), h.below.setCell (p := ⟨W.heap.size + 1, i, none⟩) (by show W.heap.size ≤ W.heap.size + 1; omega) v⟩
end Sh0

theorem i24 : (Tryd.prog.info? 24).map (·.size) = some 11 := by kernel_rfl
set_option maxHeartbeats 6400000 in
set_option maxRecDepth 100000 in
theorem shapeOf_any (f a b : Nat) (W : World) (hf : f < 4294967296) (ha : a < 256) (hb : b < 256) :
    Calls Tryd.prog 5 #[.int .u32 f, .int .u8 a, .int .u8 b] W (fun e w' => ∃ (b0 : Bool) (wide high : Nat) (x3 x4 x5 x6 : Int) (b7 : Bool) (tw th rows : Nat), Shp b0 wide high x3 x4 x5 x6 b7 tw th rows ∧
      e = .returned (.agg #[.bool b0, .int .i64 wide, .int .i64 high, .int .i64 x3, .int .i64 x4, .int .i64 x5, .int .i64 x6, .bool b7, .int .i64 tw, .int .i64 th, .int .i64 rows]) ∧ Below W.heap.size W w') := by
  go_enter Tryd.func5, Tryd.ntmps5
  go_upto_region 1 with (fail)
  go_cut [7] from 8 to 108 (fun v7 wx => v7 = .pointer (some ⟨W.heap.size + 1, 0, none⟩) ∧ ∃ (b0 : Bool) (wide high x3 : Nat), Aside0 (1 ≤ wide ∧ wide ≤ 40 ∧ 1 ≤ high ∧ high ≤ 40 ∧ x3 ≤ 3) ∧ Aside0 (Sh0 W wx b0 wide high x3 0 0 0 false 0 0 0))
  case first =>
    go_wp2_with (fail)
    go_meet
    refine ⟨rfl, (bits BinOp.and IntKind.u32 (f : Int) 1 != 0), 1 + a % 40, 1 + b % 40, f / 2 % 4, ⟨by omega⟩, ⟨?_, ?_, ?_⟩⟩
    · refine (show _ = _ from ?_)
      have h := heap_new_ (W.alloc (.cells #[.bool false, .int .i64 0, .int .i64 0, .int .i64 0, .int .i64 0, .int .i64 0, .int .i64 0, .bool false, .int .i64 0, .int .i64 0, .int .i64 0] 24)) (.cells #[.bool (bits BinOp.and IntKind.u32 (f : Int) 1 != 0), .int .i64 (1 + (a : Int) % 40), .int .i64 (1 + (b : Int) % 40), .int .i64 ((f : Int) / 2 % 4), .int .i64 0, .int .i64 0, .int .i64 0, .bool false, .int .i64 0, .int .i64 0, .int .i64 0] 24)
      simpa using h
    · exact blk_alloc (heap_new_ W _) _
    · exact ((Below.refl _ _).alloc (Nat.le_refl _) _).alloc (by simp) _
  case rest =>
    obtain ⟨rfl, b0, wide, high, x3, HF1, HS⟩ := hcut
    have HSL := Aside0.mk (HS.out.alloc (.cells #[.int .i64 8, .int .i64 16, .int .i64 8, .int .i64 1] 3))
    obtain ⟨c0, c1, c2, c3, c4, c5, c6, c7, c8, c9, c10⟩ := tiff_cells HSL.out.blk
    have f5 : (wc.alloc (.cells #[.int .i64 8, .int .i64 16, .int .i64 8, .int .i64 1] 3)).frozen? ⟨W.heap.size + 1, 5, none⟩ = false := blk_frozen HSL.out.blk 5
    clear c0 c1 c2 c3 c4 c6 c7 c8 c9 c10 HS
    go_upto_region 2 with (fail)
    obtain ⟨wo, rfl⟩ : ∃ wo : World, wo = wc := ⟨_, rfl⟩
    go_cut [7] from 8 to 108 (fun v7 wx => v7 = .pointer (some ⟨W.heap.size + 1, 0, none⟩) ∧ ∃ x5 : Int, Aside0 (x5 = 1 ∨ x5 = 8 ∨ x5 = 16) ∧ Aside0 (Sh0 W wx b0 wide high x3 0 x5 0 false 0 0 0))
    case first =>
      -- <
      have h4 : (f : Int) / 8 % 4 = 0 ∨ (f : Int) / 8 % 4 = 1 ∨ (f : Int) / 8 % 4 = 2 ∨ (f : Int) / 8 % 4 = 3 := by omega
      rcases h4 with h4 | h4 | h4 | h4
      · go_wp2_with (fail)
        go_meet
        exact ⟨rfl, 8, ⟨by simp⟩, ⟨HSL.out.store 5 _ rfl⟩⟩
      · go_wp2_with (fail)
        go_meet
        exact ⟨rfl, 16, ⟨by simp⟩, ⟨HSL.out.store 5 _ rfl⟩⟩
      · go_wp2_with (fail)
        go_meet
        exact ⟨rfl, 8, ⟨by simp⟩, ⟨HSL.out.store 5 _ rfl⟩⟩
      · go_wp2_with (fail)
        go_meet
        exact ⟨rfl, 1, ⟨by simp⟩, ⟨HSL.out.store 5 _ rfl⟩⟩
      -- >
    case rest =>
      clear HSL c5 f5
      obtain ⟨rfl, x5, HF2, HS⟩ := hcut
      obtain ⟨c0, c1, c2, c3, c4, c5, c6, c7, c8, c9, c10⟩ := tiff_cells HS.out.blk
      have f5 : wc.frozen? ⟨W.heap.size + 1, 5, none⟩ = false := blk_frozen HS.out.blk 5
      clear c0 c1 c2 c4 c6 c7 c8 c9 c10
      go_upto_block 0 with (fail)
      obtain ⟨wo, rfl⟩ : ∃ wo : World, wo = wc := ⟨_, rfl⟩
      go_cut [7] from 8 to 108 (fun v7 wx => v7 = .pointer (some ⟨W.heap.size + 1, 0, none⟩) ∧ ∃ x4 x5 : Int, Aside0 ((x5 = 1 ∨ x5 = 8 ∨ x5 = 16) ∧ (x3 = 3 → x5 = 8) ∧ (x3 = 2 → x5 = 8 ∨ x5 = 16) ∧ 0 ≤ x4 ∧ x4 ≤ 2 ∧ (x4 ≠ 0 → x3 = 2)) ∧ Aside0 (Sh0 W wx b0 wide high x3 x4 x5 0 false 0 0 0))
      case first =>
        -- <
        have h3 : x3 = 3 ∨ x3 = 2 ∨ (x3 ≠ 3 ∧ x3 ≠ 2) := by omega
        rcases h3 with h3 | h3 | h3
        · have e3 : (x3 : Int) = 3 := by omega
          have H3 := Aside0.mk h3
          clear h3
          go_wp2_with (fail)
          go_meet
          exact ⟨rfl, 0, 8, ⟨by have := H3.out; omega⟩, ⟨HS.out.store 5 _ rfl⟩⟩
        · have e3 : (x3 : Int) = 2 := by omega
          have H3 := Aside0.mk h3
          clear h3
          rcases HF2.out with h5 | h5 | h5
          all_goals subst h5
          · have HS5 := Aside0.mk (HS.out.store 5 (.int .i64 8) (x5' := 8) rfl)
            have f4 : (wo.setCell ⟨W.heap.size + 1, 5, none⟩ (.int .i64 8)).frozen? ⟨W.heap.size + 1, 4, none⟩ = false := blk_frozen HS5.out.blk 4
            obtain ⟨_, _, _, _, d4, _, _, _, _, _, _⟩ := tiff_cells HS5.out.blk
            go_wp2_with (fail)
            go_meet
            exact ⟨rfl, (f : Int) / 32 % 3, 8, ⟨by omega⟩, ⟨HS5.out.store 4 _ rfl⟩⟩
          · have HS5 := Aside0.mk (HS.out.store 5 (.int .i64 8) (x5' := 8) rfl)
            have f4 : (wo.setCell ⟨W.heap.size + 1, 5, none⟩ (.int .i64 8)).frozen? ⟨W.heap.size + 1, 4, none⟩ = false := blk_frozen HS5.out.blk 4
            obtain ⟨_, _, _, _, d4, _, _, _, _, _, _⟩ := tiff_cells HS5.out.blk
            go_wp2_with (fail)
            go_meet
            exact ⟨rfl, (f : Int) / 32 % 3, 8, ⟨by omega⟩, ⟨HS5.out.store 4 _ rfl⟩⟩
          · have HS5 := Aside0.mk (HS.out.store 5 (.int .i64 16) (x5' := 16) rfl)
            have f4 : (wo.setCell ⟨W.heap.size + 1, 5, none⟩ (.int .i64 16)).frozen? ⟨W.heap.size + 1, 4, none⟩ = false := blk_frozen HS5.out.blk 4
            obtain ⟨_, _, _, _, d4, _, _, _, _, _, _⟩ := tiff_cells HS5.out.blk
            go_wp2_with (fail)
            go_meet
            exact ⟨rfl, (f : Int) / 32 % 3, 16, ⟨by omega⟩, ⟨HS5.out.store 4 _ rfl⟩⟩
        · have e3 : ((x3 : Int) == 3) = false := by rw [beq_eq_false_iff_ne]; omega
          have e2 : ((x3 : Int) == 2) = false := by rw [beq_eq_false_iff_ne]; omega
          have H3 := Aside0.mk h3
          clear h3
          go_wp2_with (fail)
          go_meet
          exact ⟨rfl, 0, x5, ⟨by have := H3.out; have := HF2.out; omega⟩, HS⟩
        -- >
      case rest =>
        clear HS c3 c5 f5 HF2
        obtain ⟨rfl, x4, x5, HF2, HS⟩ := hcut
        have HSL := Aside0.mk (HS.out.alloc (.cells #[.int .i64 1, .int .i64 5, .int .i64 8, .int .i64 32946, .int .i64 32773] 3))
        obtain ⟨_, _, _, _, _, _, c6, _, _, _, _⟩ := tiff_cells HSL.out.blk
        have f6 : (wc.alloc (.cells #[.int .i64 1, .int .i64 5, .int .i64 8, .int .i64 32946, .int .i64 32773] 3)).frozen? ⟨W.heap.size + 1, 6, none⟩ = false := blk_frozen HSL.out.blk 6
        clear HS
        go_upto_region 8 with (fail)
        obtain ⟨wo, rfl⟩ : ∃ wo : World, wo = wc := ⟨_, rfl⟩
        go_cut [7] from 8 to 108 (fun v7 wx => v7 = .pointer (some ⟨W.heap.size + 1, 0, none⟩) ∧ ∃ x6 : Int, Aside0 (x6 = 1 ∨ x6 = 5 ∨ x6 = 8 ∨ x6 = 32946 ∨ x6 = 32773) ∧ Aside0 (Sh0 W wx b0 wide high x3 x4 x5 x6 false 0 0 0))
        case first =>
          -- <
          have h4 : (f : Int) / 128 % 5 = 0 ∨ (f : Int) / 128 % 5 = 1 ∨ (f : Int) / 128 % 5 = 2 ∨ (f : Int) / 128 % 5 = 3 ∨ (f : Int) / 128 % 5 = 4 := by omega
          rcases h4 with h4 | h4 | h4 | h4 | h4
          · go_wp2_with (fail)
            go_meet
            exact ⟨rfl, 1, ⟨by simp⟩, ⟨HSL.out.store 6 _ rfl⟩⟩
          · go_wp2_with (fail)
            go_meet
            exact ⟨rfl, 5, ⟨by simp⟩, ⟨HSL.out.store 6 _ rfl⟩⟩
          · go_wp2_with (fail)
            go_meet
            exact ⟨rfl, 8, ⟨by simp⟩, ⟨HSL.out.store 6 _ rfl⟩⟩
          · go_wp2_with (fail)
            go_meet
            exact ⟨rfl, 32946, ⟨by simp⟩, ⟨HSL.out.store 6 _ rfl⟩⟩
          · go_wp2_with (fail)
            go_meet
            exact ⟨rfl, 32773, ⟨by simp⟩, ⟨HSL.out.store 6 _ rfl⟩⟩
          -- >
        case rest =>
          clear HSL c6 f6
          obtain ⟨rfl, x6, HF3, HS⟩ := hcut
          obtain ⟨_, _, _, _, _, c5, c6, c7, _, _, _⟩ := tiff_cells HS.out.blk
          have f7 : wc.frozen? ⟨W.heap.size + 1, 7, none⟩ = false := blk_frozen HS.out.blk 7
          go_upto_region 9 with (fail)
          obtain ⟨wo, rfl⟩ : ∃ wo : World, wo = wc := ⟨_, rfl⟩
          go_cut [7] from 8 to 108 (fun v7 wx => v7 = .pointer (some ⟨W.heap.size + 1, 0, none⟩) ∧ ∃ b7 : Bool, Aside0 (b7 = true → (x5 = 8 ∨ x5 = 16) ∧ (x6 = 5 ∨ x6 = 8)) ∧ Aside0 (Sh0 W wx b0 wide high x3 x4 x5 x6 b7 0 0 0))
          case first =>
            -- <
            have h12 : (bits BinOp.and IntKind.u32 (f : Int) 4096 != 0) = true ∨ (bits BinOp.and IntKind.u32 (f : Int) 4096 != 0) = false := by cases (bits BinOp.and IntKind.u32 (f : Int) 4096 != 0) <;> simp
            rcases h12 with h12 | h12
            · by_cases h8 : (8 : Int) ≤ x5
              · have d8 : decide ((8 : Int) ≤ x5) = true := decide_eq_true h8
                have h16 := HF2.out.1
                have HX5 : Aside0 (x5 = 8 ∨ x5 = 16) := ⟨by omega⟩
                clear h16
                rcases HF3.out with h6 | h6 | h6 | h6 | h6
                all_goals subst h6
                · go_wp2_with (fail)
                  go_meet
                  exact ⟨rfl, false, ⟨fun h => by cases h⟩, ⟨HS.out.store 7 _ rfl⟩⟩
                · go_wp2_with (fail)
                  go_meet
                  exact ⟨rfl, true, ⟨fun h => ⟨HX5.out, by simp⟩⟩, ⟨HS.out.store 7 _ rfl⟩⟩
                · go_wp2_with (fail)
                  go_meet
                  exact ⟨rfl, true, ⟨fun h => ⟨HX5.out, by simp⟩⟩, ⟨HS.out.store 7 _ rfl⟩⟩
                · go_wp2_with (fail)
                  go_meet
                  exact ⟨rfl, false, ⟨fun h => by cases h⟩, ⟨HS.out.store 7 _ rfl⟩⟩
                · go_wp2_with (fail)
                  go_meet
                  exact ⟨rfl, false, ⟨fun h => by cases h⟩, ⟨HS.out.store 7 _ rfl⟩⟩
              · have d8 : decide ((8 : Int) ≤ x5) = false := decide_eq_false h8
                go_wp2_with (fail)
                go_meet
                exact ⟨rfl, false, ⟨fun h => by cases h⟩, ⟨HS.out.store 7 _ rfl⟩⟩
            · go_wp2_with (fail)
              go_meet
              exact ⟨rfl, false, ⟨fun h => by cases h⟩, ⟨HS.out.store 7 _ rfl⟩⟩
            -- >
          case rest =>
            clear HS c5 c6 c7 f7
            obtain ⟨rfl, b7, HF4, HS⟩ := hcut
            obtain ⟨_, _, c2, _, _, _, _, _, _, _, c10⟩ := tiff_cells HS.out.blk
            have f10 : wc.frozen? ⟨W.heap.size + 1, 10, none⟩ = false := blk_frozen HS.out.blk 10
            have hh0 : ¬ (high : Int) = 0 := by have := HF1.out; omega
            have hhb : ((high : Int) == 0) = false := by rw [beq_eq_false_iff_ne]; exact hh0
            go_upto_region 10 with (fail)
            obtain ⟨wo, rfl⟩ : ∃ wo : World, wo = wc := ⟨_, rfl⟩
            go_cut [7] from 8 to 108 (fun v7 wx => v7 = .pointer (some ⟨W.heap.size + 1, 0, none⟩) ∧ ∃ rows : Nat, Aside0 (1 ≤ rows ∧ rows ≤ high) ∧ Aside0 (Sh0 W wx b0 wide high x3 x4 x5 x6 b7 0 0 rows))
            case first =>
              have hmod : (f : Int) / 8192 % (high : Int) = ((f / 8192 % high : Nat) : Int) := by simp
              have hlt : f / 8192 % high < high := Nat.mod_lt _ (by have := HF1.out; omega)
              have HLT := Aside0.mk hlt
              have HMO := Aside0.mk hmod
              clear hlt hmod
              go_wp2_with (fail)
              go_meet
              refine ⟨rfl, 1 + f / 8192 % high, ⟨by have := HLT.out; omega⟩, ⟨HS.out.store 10 _ ?_⟩⟩
              have hb := HLT.out
              have hb2 := HF1.out.2.2.2.1
              rw [HMO.out, w64n (x := 1 + ((f / 8192 % high : Nat) : Int)) (by omega) (by omega)]
              simp
            case rest =>
              clear HS c2 c10 f10 hh0 hhb
              obtain ⟨rfl, rows, HF5, HS⟩ := hcut
              go_upto_if 85 with (fail)
              obtain ⟨wo, rfl⟩ : ∃ wo : World, wo = wc := ⟨_, rfl⟩
              go_cut [7] from 8 to 108 (fun v7 wx => v7 = .pointer (some ⟨W.heap.size + 1, 0, none⟩) ∧ ∃ wide tw th : Nat, Aside0 (1 ≤ wide ∧ wide ≤ 96 ∧ (tw = 0 → wide ≤ 40) ∧ ((tw = 0 ∧ th = 0) ∨ ((tw = 16 ∨ tw = 32) ∧ (th = 16 ∨ th = 32))) ∧ (tw ≠ 0 → wide = tw ∨ wide = 2 * tw ∨ wide = 3 * tw)) ∧ Aside0 (Sh0 W wx b0 wide high x3 x4 x5 x6 b7 tw th rows))
              case first =>
                -- <
                have h19 : (bits BinOp.and IntKind.u32 (f : Int) 524288 != 0) = true ∨ (bits BinOp.and IntKind.u32 (f : Int) 524288 != 0) = false := by cases (bits BinOp.and IntKind.u32 (f : Int) 524288 != 0) <;> simp
                rcases h19 with h19 | h19
                rotate_left
                · go_wp2_with (fail)
                  go_meet
                  exact ⟨rfl, wide, 0, 0, ⟨by have := HF1.out; omega⟩, HS⟩
                have h20 : (f : Int) / 1048576 % 2 = 0 ∨ (f : Int) / 1048576 % 2 = 1 := by omega
                have h21 : (f : Int) / 2097152 % 2 = 0 ∨ (f : Int) / 2097152 % 2 = 1 := by omega
                have hm3 : (a : Int) % 3 = 0 ∨ (a : Int) % 3 = 1 ∨ (a : Int) % 3 = 2 := by omega
                rcases h20 with h20 | h20 <;> rcases h21 with h21 | h21 <;> rcases hm3 with hm3 | hm3 | hm3
                · have HA := Aside0.mk (HS.out.store 8 (.int .i64 16) (tw' := 16) rfl)
                  have HBB := Aside0.mk (HA.out.store 9 (.int .i64 16) (th' := 16) rfl)
                  obtain ⟨_, _, _, _, _, _, _, _, c8, _, _⟩ := tiff_cells HS.out.blk
                  obtain ⟨_, _, _, _, _, _, _, _, _, c9, _⟩ := tiff_cells HA.out.blk
                  obtain ⟨_, c1, _, _, _, _, _, _, d8, _, _⟩ := tiff_cells HBB.out.blk
                  have f8 : wo.frozen? ⟨W.heap.size + 1, 8, none⟩ = false := blk_frozen HS.out.blk 8
                  have f9 : (wo.setCell ⟨W.heap.size + 1, 8, none⟩ (.int .i64 16)).frozen? ⟨W.heap.size + 1, 9, none⟩ = false := blk_frozen HA.out.blk 9
                  have f1 : ((wo.setCell ⟨W.heap.size + 1, 8, none⟩ (.int .i64 16)).setCell ⟨W.heap.size + 1, 9, none⟩ (.int .i64 16)).frozen? ⟨W.heap.size + 1, 1, none⟩ = false := blk_frozen HBB.out.blk 1
                  go_wp2_with (fail)
                  go_meet
                  exact ⟨rfl, 16, 16, 16, ⟨by omega⟩, ⟨HBB.out.store 1 _ rfl⟩⟩
                · have HA := Aside0.mk (HS.out.store 8 (.int .i64 16) (tw' := 16) rfl)
                  have HBB := Aside0.mk (HA.out.store 9 (.int .i64 16) (th' := 16) rfl)
                  obtain ⟨_, _, _, _, _, _, _, _, c8, _, _⟩ := tiff_cells HS.out.blk
                  obtain ⟨_, _, _, _, _, _, _, _, _, c9, _⟩ := tiff_cells HA.out.blk
                  obtain ⟨_, c1, _, _, _, _, _, _, d8, _, _⟩ := tiff_cells HBB.out.blk
                  have f8 : wo.frozen? ⟨W.heap.size + 1, 8, none⟩ = false := blk_frozen HS.out.blk 8
                  have f9 : (wo.setCell ⟨W.heap.size + 1, 8, none⟩ (.int .i64 16)).frozen? ⟨W.heap.size + 1, 9, none⟩ = false := blk_frozen HA.out.blk 9
                  have f1 : ((wo.setCell ⟨W.heap.size + 1, 8, none⟩ (.int .i64 16)).setCell ⟨W.heap.size + 1, 9, none⟩ (.int .i64 16)).frozen? ⟨W.heap.size + 1, 1, none⟩ = false := blk_frozen HBB.out.blk 1
                  go_wp2_with (fail)
                  go_meet
                  exact ⟨rfl, 32, 16, 16, ⟨by omega⟩, ⟨HBB.out.store 1 _ rfl⟩⟩
                · have HA := Aside0.mk (HS.out.store 8 (.int .i64 16) (tw' := 16) rfl)
                  have HBB := Aside0.mk (HA.out.store 9 (.int .i64 16) (th' := 16) rfl)
                  obtain ⟨_, _, _, _, _, _, _, _, c8, _, _⟩ := tiff_cells HS.out.blk
                  obtain ⟨_, _, _, _, _, _, _, _, _, c9, _⟩ := tiff_cells HA.out.blk
                  obtain ⟨_, c1, _, _, _, _, _, _, d8, _, _⟩ := tiff_cells HBB.out.blk
                  have f8 : wo.frozen? ⟨W.heap.size + 1, 8, none⟩ = false := blk_frozen HS.out.blk 8
                  have f9 : (wo.setCell ⟨W.heap.size + 1, 8, none⟩ (.int .i64 16)).frozen? ⟨W.heap.size + 1, 9, none⟩ = false := blk_frozen HA.out.blk 9
                  have f1 : ((wo.setCell ⟨W.heap.size + 1, 8, none⟩ (.int .i64 16)).setCell ⟨W.heap.size + 1, 9, none⟩ (.int .i64 16)).frozen? ⟨W.heap.size + 1, 1, none⟩ = false := blk_frozen HBB.out.blk 1
                  go_wp2_with (fail)
                  go_meet
                  exact ⟨rfl, 48, 16, 16, ⟨by omega⟩, ⟨HBB.out.store 1 _ rfl⟩⟩
                · have HA := Aside0.mk (HS.out.store 8 (.int .i64 16) (tw' := 16) rfl)
                  have HBB := Aside0.mk (HA.out.store 9 (.int .i64 32) (th' := 32) rfl)
                  obtain ⟨_, _, _, _, _, _, _, _, c8, _, _⟩ := tiff_cells HS.out.blk
                  obtain ⟨_, _, _, _, _, _, _, _, _, c9, _⟩ := tiff_cells HA.out.blk
                  obtain ⟨_, c1, _, _, _, _, _, _, d8, _, _⟩ := tiff_cells HBB.out.blk
                  have f8 : wo.frozen? ⟨W.heap.size + 1, 8, none⟩ = false := blk_frozen HS.out.blk 8
                  have f9 : (wo.setCell ⟨W.heap.size + 1, 8, none⟩ (.int .i64 16)).frozen? ⟨W.heap.size + 1, 9, none⟩ = false := blk_frozen HA.out.blk 9
                  have f1 : ((wo.setCell ⟨W.heap.size + 1, 8, none⟩ (.int .i64 16)).setCell ⟨W.heap.size + 1, 9, none⟩ (.int .i64 32)).frozen? ⟨W.heap.size + 1, 1, none⟩ = false := blk_frozen HBB.out.blk 1
                  go_wp2_with (fail)
                  go_meet
                  exact ⟨rfl, 16, 16, 32, ⟨by omega⟩, ⟨HBB.out.store 1 _ rfl⟩⟩
                · have HA := Aside0.mk (HS.out.store 8 (.int .i64 16) (tw' := 16) rfl)
                  have HBB := Aside0.mk (HA.out.store 9 (.int .i64 32) (th' := 32) rfl)
                  obtain ⟨_, _, _, _, _, _, _, _, c8, _, _⟩ := tiff_cells HS.out.blk
                  obtain ⟨_, _, _, _, _, _, _, _, _, c9, _⟩ := tiff_cells HA.out.blk
                  obtain ⟨_, c1, _, _, _, _, _, _, d8, _, _⟩ := tiff_cells HBB.out.blk
                  have f8 : wo.frozen? ⟨W.heap.size + 1, 8, none⟩ = false := blk_frozen HS.out.blk 8
                  have f9 : (wo.setCell ⟨W.heap.size + 1, 8, none⟩ (.int .i64 16)).frozen? ⟨W.heap.size + 1, 9, none⟩ = false := blk_frozen HA.out.blk 9
                  have f1 : ((wo.setCell ⟨W.heap.size + 1, 8, none⟩ (.int .i64 16)).setCell ⟨W.heap.size + 1, 9, none⟩ (.int .i64 32)).frozen? ⟨W.heap.size + 1, 1, none⟩ = false := blk_frozen HBB.out.blk 1
                  go_wp2_with (fail)
                  go_meet
                  exact ⟨rfl, 32, 16, 32, ⟨by omega⟩, ⟨HBB.out.store 1 _ rfl⟩⟩
                · have HA := Aside0.mk (HS.out.store 8 (.int .i64 16) (tw' := 16) rfl)
                  have HBB := Aside0.mk (HA.out.store 9 (.int .i64 32) (th' := 32) rfl)
                  obtain ⟨_, _, _, _, _, _, _, _, c8, _, _⟩ := tiff_cells HS.out.blk
                  obtain ⟨_, _, _, _, _, _, _, _, _, c9, _⟩ := tiff_cells HA.out.blk
                  obtain ⟨_, c1, _, _, _, _, _, _, d8, _, _⟩ := tiff_cells HBB.out.blk
                  have f8 : wo.frozen? ⟨W.heap.size + 1, 8, none⟩ = false := blk_frozen HS.out.blk 8
                  have f9 : (wo.setCell ⟨W.heap.size + 1, 8, none⟩ (.int .i64 16)).frozen? ⟨W.heap.size + 1, 9, none⟩ = false := blk_frozen HA.out.blk 9
                  have f1 : ((wo.setCell ⟨W.heap.size + 1, 8, none⟩ (.int .i64 16)).setCell ⟨W.heap.size + 1, 9, none⟩ (.int .i64 32)).frozen? ⟨W.heap.size + 1, 1, none⟩ = false := blk_frozen HBB.out.blk 1
                  go_wp2_with (fail)
                  go_meet
                  exact ⟨rfl, 48, 16, 32, ⟨by omega⟩, ⟨HBB.out.store 1 _ rfl⟩⟩
                · have HA := Aside0.mk (HS.out.store 8 (.int .i64 32) (tw' := 32) rfl)
                  have HBB := Aside0.mk (HA.out.store 9 (.int .i64 16) (th' := 16) rfl)
                  obtain ⟨_, _, _, _, _, _, _, _, c8, _, _⟩ := tiff_cells HS.out.blk
                  obtain ⟨_, _, _, _, _, _, _, _, _, c9, _⟩ := tiff_cells HA.out.blk
                  obtain ⟨_, c1, _, _, _, _, _, _, d8, _, _⟩ := tiff_cells HBB.out.blk
                  have f8 : wo.frozen? ⟨W.heap.size + 1, 8, none⟩ = false := blk_frozen HS.out.blk 8
                  have f9 : (wo.setCell ⟨W.heap.size + 1, 8, none⟩ (.int .i64 32)).frozen? ⟨W.heap.size + 1, 9, none⟩ = false := blk_frozen HA.out.blk 9
                  have f1 : ((wo.setCell ⟨W.heap.size + 1, 8, none⟩ (.int .i64 32)).setCell ⟨W.heap.size + 1, 9, none⟩ (.int .i64 16)).frozen? ⟨W.heap.size + 1, 1, none⟩ = false := blk_frozen HBB.out.blk 1
                  go_wp2_with (fail)
                  go_meet
                  exact ⟨rfl, 32, 32, 16, ⟨by omega⟩, ⟨HBB.out.store 1 _ rfl⟩⟩
                · have HA := Aside0.mk (HS.out.store 8 (.int .i64 32) (tw' := 32) rfl)
                  have HBB := Aside0.mk (HA.out.store 9 (.int .i64 16) (th' := 16) rfl)
                  obtain ⟨_, _, _, _, _, _, _, _, c8, _, _⟩ := tiff_cells HS.out.blk
                  obtain ⟨_, _, _, _, _, _, _, _, _, c9, _⟩ := tiff_cells HA.out.blk
                  obtain ⟨_, c1, _, _, _, _, _, _, d8, _, _⟩ := tiff_cells HBB.out.blk
                  have f8 : wo.frozen? ⟨W.heap.size + 1, 8, none⟩ = false := blk_frozen HS.out.blk 8
                  have f9 : (wo.setCell ⟨W.heap.size + 1, 8, none⟩ (.int .i64 32)).frozen? ⟨W.heap.size + 1, 9, none⟩ = false := blk_frozen HA.out.blk 9
                  have f1 : ((wo.setCell ⟨W.heap.size + 1, 8, none⟩ (.int .i64 32)).setCell ⟨W.heap.size + 1, 9, none⟩ (.int .i64 16)).frozen? ⟨W.heap.size + 1, 1, none⟩ = false := blk_frozen HBB.out.blk 1
                  go_wp2_with (fail)
                  go_meet
                  exact ⟨rfl, 64, 32, 16, ⟨by omega⟩, ⟨HBB.out.store 1 _ rfl⟩⟩
                · have HA := Aside0.mk (HS.out.store 8 (.int .i64 32) (tw' := 32) rfl)
                  have HBB := Aside0.mk (HA.out.store 9 (.int .i64 16) (th' := 16) rfl)
                  obtain ⟨_, _, _, _, _, _, _, _, c8, _, _⟩ := tiff_cells HS.out.blk
                  obtain ⟨_, _, _, _, _, _, _, _, _, c9, _⟩ := tiff_cells HA.out.blk
                  obtain ⟨_, c1, _, _, _, _, _, _, d8, _, _⟩ := tiff_cells HBB.out.blk
                  have f8 : wo.frozen? ⟨W.heap.size + 1, 8, none⟩ = false := blk_frozen HS.out.blk 8
                  have f9 : (wo.setCell ⟨W.heap.size + 1, 8, none⟩ (.int .i64 32)).frozen? ⟨W.heap.size + 1, 9, none⟩ = false := blk_frozen HA.out.blk 9
                  have f1 : ((wo.setCell ⟨W.heap.size + 1, 8, none⟩ (.int .i64 32)).setCell ⟨W.heap.size + 1, 9, none⟩ (.int .i64 16)).frozen? ⟨W.heap.size + 1, 1, none⟩ = false := blk_frozen HBB.out.blk 1
                  go_wp2_with (fail)
                  go_meet
                  exact ⟨rfl, 96, 32, 16, ⟨by omega⟩, ⟨HBB.out.store 1 _ rfl⟩⟩
                · have HA := Aside0.mk (HS.out.store 8 (.int .i64 32) (tw' := 32) rfl)
                  have HBB := Aside0.mk (HA.out.store 9 (.int .i64 32) (th' := 32) rfl)
                  obtain ⟨_, _, _, _, _, _, _, _, c8, _, _⟩ := tiff_cells HS.out.blk
                  obtain ⟨_, _, _, _, _, _, _, _, _, c9, _⟩ := tiff_cells HA.out.blk
                  obtain ⟨_, c1, _, _, _, _, _, _, d8, _, _⟩ := tiff_cells HBB.out.blk
                  have f8 : wo.frozen? ⟨W.heap.size + 1, 8, none⟩ = false := blk_frozen HS.out.blk 8
                  have f9 : (wo.setCell ⟨W.heap.size + 1, 8, none⟩ (.int .i64 32)).frozen? ⟨W.heap.size + 1, 9, none⟩ = false := blk_frozen HA.out.blk 9
                  have f1 : ((wo.setCell ⟨W.heap.size + 1, 8, none⟩ (.int .i64 32)).setCell ⟨W.heap.size + 1, 9, none⟩ (.int .i64 32)).frozen? ⟨W.heap.size + 1, 1, none⟩ = false := blk_frozen HBB.out.blk 1
                  go_wp2_with (fail)
                  go_meet
                  exact ⟨rfl, 32, 32, 32, ⟨by omega⟩, ⟨HBB.out.store 1 _ rfl⟩⟩
                · have HA := Aside0.mk (HS.out.store 8 (.int .i64 32) (tw' := 32) rfl)
                  have HBB := Aside0.mk (HA.out.store 9 (.int .i64 32) (th' := 32) rfl)
                  obtain ⟨_, _, _, _, _, _, _, _, c8, _, _⟩ := tiff_cells HS.out.blk
                  obtain ⟨_, _, _, _, _, _, _, _, _, c9, _⟩ := tiff_cells HA.out.blk
                  obtain ⟨_, c1, _, _, _, _, _, _, d8, _, _⟩ := tiff_cells HBB.out.blk
                  have f8 : wo.frozen? ⟨W.heap.size + 1, 8, none⟩ = false := blk_frozen HS.out.blk 8
                  have f9 : (wo.setCell ⟨W.heap.size + 1, 8, none⟩ (.int .i64 32)).frozen? ⟨W.heap.size + 1, 9, none⟩ = false := blk_frozen HA.out.blk 9
                  have f1 : ((wo.setCell ⟨W.heap.size + 1, 8, none⟩ (.int .i64 32)).setCell ⟨W.heap.size + 1, 9, none⟩ (.int .i64 32)).frozen? ⟨W.heap.size + 1, 1, none⟩ = false := blk_frozen HBB.out.blk 1
                  go_wp2_with (fail)
                  go_meet
                  exact ⟨rfl, 64, 32, 32, ⟨by omega⟩, ⟨HBB.out.store 1 _ rfl⟩⟩
                · have HA := Aside0.mk (HS.out.store 8 (.int .i64 32) (tw' := 32) rfl)
                  have HBB := Aside0.mk (HA.out.store 9 (.int .i64 32) (th' := 32) rfl)
                  obtain ⟨_, _, _, _, _, _, _, _, c8, _, _⟩ := tiff_cells HS.out.blk
                  obtain ⟨_, _, _, _, _, _, _, _, _, c9, _⟩ := tiff_cells HA.out.blk
                  obtain ⟨_, c1, _, _, _, _, _, _, d8, _, _⟩ := tiff_cells HBB.out.blk
                  have f8 : wo.frozen? ⟨W.heap.size + 1, 8, none⟩ = false := blk_frozen HS.out.blk 8
                  have f9 : (wo.setCell ⟨W.heap.size + 1, 8, none⟩ (.int .i64 32)).frozen? ⟨W.heap.size + 1, 9, none⟩ = false := blk_frozen HA.out.blk 9
                  have f1 : ((wo.setCell ⟨W.heap.size + 1, 8, none⟩ (.int .i64 32)).setCell ⟨W.heap.size + 1, 9, none⟩ (.int .i64 32)).frozen? ⟨W.heap.size + 1, 1, none⟩ = false := blk_frozen HBB.out.blk 1
                  go_wp2_with (fail)
                  go_meet
                  exact ⟨rfl, 96, 32, 32, ⟨by omega⟩, ⟨HBB.out.store 1 _ rfl⟩⟩
                -- >
              case rest =>
                clear HS
                obtain ⟨rfl, wide, tw, th, HF6, HS⟩ := hcut
                obtain ⟨c0, c1, c2, c3, c4, c5, c6, c7, c8, c9, c10⟩ := tiff_cells HS.out.blk
                obtain ⟨d0, d1, d2, d3, d4, d5, d6, d7, d8, d9, d10⟩ := tiff_cells HS.out.zer
                have HZ := Aside0.mk (fun i => blk_frozen HS.out.zer i)
                obtain ⟨f0, f1, f2, f3, f4, f5, f6, f7, f8, f9, f10⟩ : wc.frozen? ⟨W.heap.size, 0, none⟩ = false ∧ wc.frozen? ⟨W.heap.size, 1, none⟩ = false ∧ wc.frozen? ⟨W.heap.size, 2, none⟩ = false ∧ wc.frozen? ⟨W.heap.size, 3, none⟩ = false ∧ wc.frozen? ⟨W.heap.size, 4, none⟩ = false ∧ wc.frozen? ⟨W.heap.size, 5, none⟩ = false ∧
                  wc.frozen? ⟨W.heap.size, 6, none⟩ = false ∧ wc.frozen? ⟨W.heap.size, 7, none⟩ = false ∧ wc.frozen? ⟨W.heap.size, 8, none⟩ = false ∧ wc.frozen? ⟨W.heap.size, 9, none⟩ = false ∧ wc.frozen? ⟨W.heap.size, 10, none⟩ = false :=
                  ⟨HZ.out 0, HZ.out 1, HZ.out 2, HZ.out 3, HZ.out 4, HZ.out 5, HZ.out 6, HZ.out 7, HZ.out 8, HZ.out 9, HZ.out 10⟩
                go_wp2
                refine bodyPost_ret (results_cell_row rfl _ _ W.heap.size 24 #[.bool b0, .int .i64 wide, .int .i64 high, .int .i64 x3, .int .i64 x4, .int .i64 x5, .int .i64 x6, .bool b7, .int .i64 tw, .int .i64 th, .int .i64 rows] (0, 0) _ rfl (set11 HS.out.zer) Tryd.underlying24 rfl i24) rfl ?_
                have q1 := HF1.out
                have q2 := HF2.out
                have q3 := HF3.out
                have q5 := HF5.out
                have q6 := HF6.out
                exact ⟨b0, wide, high, x3, x4, x5, x6, b7, tw, th, rows, ⟨q6.1, q6.2.1, q6.2.2.1, q1.2.2.1, q1.2.2.2.1, ⟨by omega, by omega⟩, q2.1, fun h => q2.2.1 (by omega), fun h => q2.2.2.1 (by omega), ⟨q2.2.2.2.1, q2.2.2.2.2.1⟩, fun h => by have := q2.2.2.2.2.2 h; omega, q3, HF4.out, q5.1, q5.2, q6.2.2.2.1, q6.2.2.2.2⟩, rfl, below11 HS.out.below (Nat.le_refl _)⟩
end Go.Proofs.YtnodmobblamlgaaDoor
