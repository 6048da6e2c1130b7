/- impl.shadesOf: of no palette, and of the palette that the decoder holds. -/
import Derived.Test.YtnodmobblamlgaaDoorKCfgPlain
import Derived.Test.YtnodmobblamlgaaDoorKShade
import Derived.Test.YtnodmobblamlgaaDoorKDecI
namespace Go.Proofs.YtnodmobblamlgaaDoor
open Go.RowKit Go.Proofs.YtnodmobblamlgaaDoor.PFnConfig Go.Proofs.YtnodmobblamlgaaDoorW.PrintWords Go.Proofs.YtnodmobblamlgaaDoorW.PrintLast Go.Proofs.YtnodmobblamlgaaDoorW.PrintMore
set_option linter.unusedVariables false
set_option linter.unusedSimpArgs false

theorem nilAhead_RGBA (r g b a : Int) (w : World) : (nilAhead 312 149 (.agg #[.int .u16 r, .int .u16 g, .int .u16 b, .int .u16 a]) "RGBA").run Tryd.prog w = .ok (some false) w := by kernel_rfl
theorem method_RGBA (r g b a : Int) (w : World) : (method 312 149 (.agg #[.int .u16 r, .int .u16 g, .int .u16 b, .int .u16 a]) "RGBA").run Tryd.prog w = .ok (106, .agg #[.int .u16 r, .int .u16 g, .int .u16 b, .int .u16 a]) w := by kernel_rfl
theorem i76 : (Tryd.prog.info? 76).map (fun i => (i.zero, i.size, i.bytes)) = some (some (.agg #[.int .u8 0, .int .u8 0, .int .u8 0, .int .u8 0]), 4, 4) := by kernel_rfl

/-- The shades of colours that stand as all reds, all greens, all blues. -/
def shd (ys : List Int) (j : Nat) : S76 := ⟨rd ys j / 256, rd ys (j + 256 : Nat) / 256, rd ys (j + 512 : Nat) / 256, 255⟩

theorem shadesOf_nil (W : World) : Calls Tryd.prog 26 #[.slice none 0 0] W fun e w' => e = .returned (.slice none 0 0) ∧ Below W.heap.size W w' := by
  have HB := Aside0.mk (Below.refl W.heap.size W)
  go_enter Tryd.func26, Tryd.ntmps26
  go_wp2_with (fail)
  go_loopg [3, 12] 0 (fun kq v3 v12 wr => v3 = .slice none 0 0 ∧ v12 = .int .i64 0 ∧ W = wr)
  case atStart => exact ⟨rfl, rfl, rfl⟩
  case round =>
    obtain ⟨rfl, rfl, rfl⟩ := hrel
    go_wp2_with (fail)
    go_ret
    exact ⟨rfl, HB.out⟩

set_option maxRecDepth 100000 in
set_option maxHeartbeats 3200000 in
theorem shadesOf_pal (pb : Nat) (ys : List Int) (W : World) (hp : PalB W pb ys) (hy : ∀ j : Nat, 0 ≤ rd ys j ∧ rd ys j < 65536) :
    Calls Tryd.prog 26 #[.slice (some ⟨pb, 0, none⟩) 256 256] W fun e w' => ∃ v, e = .returned v ∧ Kd.R k76 76 w' W.heap.size (fun _ => True) v ((List.range 256).map (shd ys)) ∧ Below W.heap.size W w' := by
  have HB0 := Aside0.mk (Below.refl W.heap.size W)
  have HP := Aside0.mk hp
  have HY := Aside0.mk hy
  clear hp hy
  go_enter Tryd.func26, Tryd.ntmps26
  go_wp2_with (fail)
  go_loopg [3, 12] 256 (fun kq v3 v12 wr => ∃ k : Nat, v12 = .int .i64 k ∧ Aside0 (kq = 256 - k ∧ k ≤ 256) ∧ Aside0 (Kd.R k76 76 wr W.heap.size (fun _ => True) v3 ((List.range k).map (shd ys))) ∧ Aside0 (Below W.heap.size W wr))
  case atStart => exact ⟨0, rfl, ⟨rfl, by omega⟩, ⟨Kd.R_nil _ _ _ _ _⟩, HB0⟩
  case round =>
    obtain ⟨k, rfl, HK, HR, HB⟩ := hrel
    have hk1 := HK.out.2
    rcases Nat.lt_or_ge k 256 with hk | hk
    · obtain ⟨cur, hb, hs, hc⟩ := HP.out
      have c0 : wr.cell? ⟨pb, k, none⟩ = some (.iface 149 (.agg #[.int .u16 (rd ys k), .int .u16 (rd ys (k + 256 : Nat)), .int .u16 (rd ys (k + 512 : Nat)), .int .u16 65535])) :=
        (blk_cell (blk_below HB.out hb) k).trans (hc k hk)
      obtain ⟨r, hr⟩ : ∃ r, r = rd ys k := ⟨_, rfl⟩
      obtain ⟨g, hg⟩ : ∃ g, g = rd ys (k + 256 : Nat) := ⟨_, rfl⟩
      obtain ⟨b, hb'⟩ : ∃ b, b = rd ys (k + 512 : Nat) := ⟨_, rfl⟩
      have br := HY.out k
      have bg := HY.out (k + 256)
      have bb := HY.out (k + 512)
      have HS := Aside0.mk (show shd ys k = ⟨r / 256, g / 256, b / 256, 255⟩ by rw [hr, hg, hb']; rfl)
      rw [← hr] at br c0
      rw [← hg] at bg c0
      rw [← hb'] at bb c0
      clear hr hg hb' hb hs hc cur
      have nA := nilAhead_RGBA r g b 65535
      have mR := method_RGBA r g b 65535
      have RG := Aside0.mk (fun w => RGBA_any r g b 65535 br bg bb (by omega) w)
      obtain ⟨A3, c3, rfl, _, _⟩ := Kd.R_reads HR.out
      rw [show ((List.range k).map (shd ys)).length = k by rw [List.length_map, List.length_range]] at HR ⊢
      go_upto_region 6 with (go_at_call 106; (with_reducible refine (RG.out _).mono ?_); rintro e w1 ⟨rfl, h1⟩; have K1 := Aside0.mk h1; clear h1)
      have HB1 := Aside0.mk (HB.out.trans (K1.out.mono HB.out.size))
      have HR1 := Aside0.mk (Kd.R_below HR.out K1.out)
      go_wp2_with ((with_reducible refine gate_builtin (b := .append) (xs := #[.tmp 23, .tmp 37]) rfl ?_); at_builtin; go_loud (refine Kd.R_append k76 (w0 := W) W.heap.size rfl (.tmp 23) (.tmp 37) 41 76 (.agg #[.int .u8 0, .int .u8 0, .int .u8 0, .int .u8 0]) 4 rfl Tryd.underlying41 i76 rfl (by decide) (by omega) _ ((List.range k).map (shd ys)) ⟨r / 256, g / 256, b / 256, 255⟩ [.int .u8 (r / 256), .int .u8 (g / 256), .int .u8 (b / 256), .int .u8 255] (fun _ => True) (fun _ => False) rfl (by simp [Act.eval]) (k76_mkM _ _ _ ⟨r / 256, g / 256, b / 256, 255⟩) (fun _ hk => hk.elim) (fun _ _ => trivial) HR1.out HB1.out HB1.out.size (by simp; omega) ?_); intro vn wn ho hb hg hat; have HN := Aside0.mk ho; have HBN := Aside0.mk hb; clear ho hb hg hat)
      go_roundg (256 - (k + 1))
      case measure => have := HK.out; omega
      case rel => exact ⟨k + 1, by go_num, ⟨rfl, by omega⟩, ⟨by rw [List.range_succ, List.map_append, List.map_singleton, HS.out]; exact HN.out⟩, HBN⟩
    · obtain rfl : k = 256 := by omega
      go_wp2_with (fail)
      go_ret
      exact ⟨_, rfl, HR.out, HB.out⟩
end Go.Proofs.YtnodmobblamlgaaDoor
