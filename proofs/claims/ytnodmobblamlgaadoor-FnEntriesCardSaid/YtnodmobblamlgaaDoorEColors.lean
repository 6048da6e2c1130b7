/- spec.ColorsOf of 256 colours, of eight bits: just what they are. -/
import Derived.Test.YtnodmobblamlgaaDoorESamples
import Derived.Test.YtnodmobblamlgaaDoorEPFnConfigx7
namespace Go.Proofs.YtnodmobblamlgaaDoor
open Go.RowKit Go.Proofs.YtnodmobblamlgaaDoor.PFnConfig Go.Proofs.YtnodmobblamlgaaDoorW.PrintWords Go.Proofs.YtnodmobblamlgaaDoorW.PrintLast Go.Proofs.YtnodmobblamlgaaDoorW.PrintMore
set_option linter.unusedVariables false
set_option linter.unusedSimpArgs false

def fld (c : Nat) (p : S57) : Int := match c with | 0 => p.f0 | 1 => p.f1 | _ => p.f2

/-- All reds, all greens, all blues. -/
def cols (ps : List S57) : List Int := ps.map (fld 0) ++ ps.map (fld 1) ++ ps.map (fld 2)
/-- Of them the first c, and k of the next. -/
def colsTo (ps : List S57) (c k : Nat) : List Int := ((List.range c).map fun j => ps.map (fld j)).flatten ++ (ps.take k).map (fld c)
theorem colsTo_zero (ps : List S57) : colsTo ps 0 0 = [] := by simp [colsTo]
theorem colsTo_all (ps : List S57) : colsTo ps 3 0 = cols ps := by simp [colsTo, cols, List.range_succ]
theorem colsTo_next (ps : List S57) (c k : Nat) (hk : ps.length ≤ k) : colsTo ps c k = colsTo ps (c + 1) 0 := by
  simp [colsTo, List.range_succ, List.take_of_length_le hk]
theorem colsTo_succ (ps : List S57) (c k : Nat) (hk : k < ps.length) : colsTo ps c k ++ [fld c (rd_T57 ps k)] = colsTo ps c (k + 1) := by
  have : rd_T57 ps k = ps[k] := by simp [rd_T57, List.getD_eq_getElem?_getD, List.getElem?_eq_getElem hk]
  rw [this, colsTo, colsTo, List.take_succ_eq_append_getElem hk, List.map_append, List.append_assoc]
  rfl
theorem colsTo_length (ps : List S57) (c k : Nat) (hc : c ≤ 3) : (colsTo ps c k).length ≤ 4 * ps.length := by
  have h1 : ((ps.take k).map (fld c)).length ≤ ps.length := by rw [List.length_map, List.length_take]; omega
  have h2 : (((List.range c).map fun j => ps.map (fld j)).flatten).length = c * ps.length := by
    rcases c with _ | _ | _ | _ | c
    · simp
    · simp [List.range_succ]
    · simp [List.range_succ]; omega
    · simp [List.range_succ]; omega
    · omega
  unfold colsTo
  rw [List.length_append, h2]
  have : c * ps.length ≤ 3 * ps.length := Nat.mul_le_mul_right _ hc
  omega

set_option maxHeartbeats 3200000 in
set_option maxRecDepth 100000 in
theorem ColorsOf_any (A : Option Addr) (c : Nat) (ps : List S57) (W : World) (hx : Kd.C k57 W A 256 ps) :
    Calls Tryd.prog 18 #[.slice A 256 c, .int .i64 8] W (fun e w' => ∃ v, e = .returned v ∧ Kd.R (Kd.int .i64) 3 w' W.heap.size (fun _ => True) v (cols ps) ∧ Below W.heap.size W w') := by
  have hlen : ps.length = 256 := hx.1
  have HX := Aside0.mk hx
  have HLEN := Aside0.mk hlen
  have HR0 := Aside0.mk (Kd.R_mono (R_newI W W.heap.size [] (Nat.le_refl _) (by simp)) (ok' := fun _ => True) (fun _ _ => trivial))
  have HB0 := Aside0.mk ((Below.refl W.heap.size W).alloc (Nat.le_refl _) (.cells #[] 3))
  clear hx hlen
  go_enter Tryd.func18, Tryd.ntmps18
  go_wp2
  go_loopg [5, 6, 7, 8, 10] 3 (fun kq v5 v6 v7 v8 v10 wr => ∃ (q : Nat), v10 = .int .i64 q ∧ Aside0 (kq = 3 - q ∧ q ≤ 3) ∧ Aside0 (Kd.R (Kd.int .i64) 3 wr W.heap.size (fun _ => True) v5 (colsTo ps q 0)) ∧ Aside0 (Below W.heap.size W wr))
  case atStart => exact ⟨0, rfl, ⟨rfl, by omega⟩, ⟨by rw [colsTo_zero]; exact HR0.out⟩, HB0⟩
  case round =>
    obtain ⟨q, rfl, HK, HR, HB⟩ := hrel
    have hq3 := HK.out.2
    rcases Nat.lt_or_ge q 3 with hq | hq
    · go_wp2
      obtain ⟨wo, rfl⟩ : ∃ wo : World, wo = wr := ⟨_, rfl⟩
      obtain ⟨go, rfl⟩ : ∃ go : Nat, go = gk := ⟨_, rfl⟩
      go_loopg [5, 7, 8, 15] 256 (fun kq v5 v7 v8 v15 wr => ∃ (k : Nat), v15 = .int .i64 k ∧ Aside0 (kq = 256 - k ∧ k ≤ 256) ∧ Aside0 (Kd.R (Kd.int .i64) 3 wr W.heap.size (fun _ => True) v5 (colsTo ps q k)) ∧ Aside0 (Below W.heap.size W wr))
      case atStart => exact ⟨0, rfl, ⟨rfl, by omega⟩, HR, HB⟩
      case round =>
        clear HR HB
        obtain ⟨k, rfl, HJ, HR, HB⟩ := hrel
        have hk256 := HJ.out.2
        rcases Nat.lt_or_ge k 256 with hk | hk
        · obtain ⟨ad, hA, a0, a1, a2, a3⟩ := at_T57 HX.out (k : Int) (by omega) (by omega)
          subst hA
          simp only [Int.toNat_natCast] at a0 a1 a2 a3
          have hcs : ∀ {p : Addr} {u : Value}, W.cell? p = some u → (wr.alloc (.cells #[.int .i64 0, .int .i64 0, .int .i64 0, .int .i64 0] 57)).cell? p = some u := fun h =>
            (World.cell?_of_block ((Below.heap_alloc wr _ _ (Nat.lt_of_lt_of_le (World.block_lt_of_cell? W _ h) HB.out.size)).trans (HB.out.block _ (World.block_lt_of_cell? W _ h)))).trans h
          have b0 := hcs a0
          have b1 := hcs a1
          have b2 := hcs a2
          have b3 := hcs a3
          clear hcs a0 a1 a2 a3
          obtain ⟨A5, c5, rfl, _, _⟩ := Kd.R_reads HR.out
          have HB2 : Aside0 (Below W.heap.size W ((wr.alloc (.cells #[.int .i64 (rd_T57 ps k).f0, .int .i64 (rd_T57 ps k).f1, .int .i64 (rd_T57 ps k).f2, .int .i64 (rd_T57 ps k).f3] 57)).alloc (.cells #[.int .i64 (rd_T57 ps k).f0, .int .i64 (rd_T57 ps k).f1, .int .i64 (rd_T57 ps k).f2] 3))) := ⟨(HB.out.alloc HB.out.size _).alloc (by have := HB.out.size; simp; omega) _⟩
          have HR2 : Aside0 (Kd.R (Kd.int .i64) 3 ((wr.alloc (.cells #[.int .i64 (rd_T57 ps k).f0, .int .i64 (rd_T57 ps k).f1, .int .i64 (rd_T57 ps k).f2, .int .i64 (rd_T57 ps k).f3] 57)).alloc (.cells #[.int .i64 (rd_T57 ps k).f0, .int .i64 (rd_T57 ps k).f1, .int .i64 (rd_T57 ps k).f2] 3)) W.heap.size (fun _ => True) _ (colsTo ps q k)) := ⟨Kd.R_below HR.out (((Below.refl _ wr).alloc (Nat.le_refl _) _).alloc (by simp) _)⟩
          have HLL := Aside0.mk (colsTo_length ps q k hq3)
          have HNX := Aside0.mk (colsTo_succ ps q k (by have := HLEN.out; omega))
          go_upto_region 11 with (fail)
          obtain ⟨q2, hq2⟩ : ∃ q2 : Nat, q2 = q := ⟨_, rfl⟩
          have hq012 : q = 0 ∨ q = 1 ∨ q = 2 := by omega
          have HQ2 := Aside0.mk hq2
          clear hq2
          rcases hq012 with rfl | rfl | rfl
          all_goals
            go_wp2_with ((with_reducible refine gate_builtin (b := .append) (xs := #[.tmp 27, .tmp 38]) rfl ?_); at_builtin; go_loud (refine Kd.R_append (Kd.int .i64) (w0 := W) W.heap.size rfl (.tmp 27) (.tmp 38) 28 3 (.int .i64 0) 8 rfl Tryd.underlying28 i3 rfl (by decide) (by omega) _ (colsTo ps _ k) _ [_] (fun _ => True) (fun _ => False) rfl (by simp [Act.eval]) rfl (fun _ hk => hk.elim) (fun _ _ => trivial) HR2.out HB2.out HB2.out.size (by have := HLL.out; have := HLEN.out; omega) ?_); intro v1 w1 ho hb1 hg1 hat; have HO := Aside0.mk ho; have HB1 := Aside0.mk hb1; clear ho hb1 hg1 hat)
            go_roundg (256 - (k + 1))
            case measure => have := HJ.out; omega
            case rel => exact ⟨k + 1, by go_num, ⟨rfl, by omega⟩, ⟨by rw [← HNX.out]; exact HO.out⟩, HB1⟩
        · obtain rfl : k = 256 := by omega
          go_wp2
          go_roundg (3 - (q + 1))
          case measure => have := HK.out; omega
          case rel => exact ⟨q + 1, by go_num, ⟨rfl, by omega⟩, ⟨by rw [← colsTo_next ps q 256 (by have := HLEN.out; omega)]; exact HR.out⟩, HB⟩
    · obtain rfl : q = 3 := by omega
      go_wp2
      go_ret
      exact ⟨_, rfl, by rw [← colsTo_all]; exact HR.out, HB.out⟩
end Go.Proofs.YtnodmobblamlgaaDoor
