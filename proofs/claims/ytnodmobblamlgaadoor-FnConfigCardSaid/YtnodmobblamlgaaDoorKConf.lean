/- tiff.DecodeConfig and impl.Config over a file that spec.Write makes. -/
import Derived.Test.YtnodmobblamlgaaDoorKFiled
import Derived.Test.YtnodmobblamlgaaDoorKShades
namespace Go.Proofs.YtnodmobblamlgaaDoor
open Go.RowKit Go.Proofs.YtnodmobblamlgaaDoor.PFnConfig Go.Proofs.YtnodmobblamlgaaDoorW.PrintWords Go.Proofs.YtnodmobblamlgaaDoorW.PrintLast Go.Proofs.YtnodmobblamlgaaDoorW.PrintMore
set_option linter.unusedVariables false
set_option linter.unusedSimpArgs false

/-- A configuration's palette. -/
def CfgPal (w' : World) (x3 : Int) (ps : List S57) (pv : Value) : Prop := (x3 ≠ 3 ∧ pv = .slice none 0 0) ∨ (x3 = 3 ∧ ∃ pb, pv = .slice (some ⟨pb, 0, none⟩) 256 256 ∧ PalB w' pb (cols ps))
def CfgOut (W : World) (wide high : Nat) (x3 x4 x5 : Int) (ps : List S57) (e : Ending) (w' : World) : Prop :=
  ∃ pv, e = .returned (.tuple #[.agg #[.int .i64 (kindN x3 x4 x5), pv, .int .i64 wide, .int .i64 high], .nilIface]) ∧ Below W.heap.size W w' ∧ CfgPal w' x3 ps pv

set_option maxRecDepth 100000 in
set_option maxHeartbeats 3200000 in
theorem DecodeConfig_any {big : Bool} {bs : List Int} {wide high : Nat} {x3 x4 x5 : Int} {ps : List S57} {es : List Ent} (hF : Filed big bs wide high x3 x4 x5 ps es) (W : World) (g : Nat) (A : Option Addr) (c : Nat) (hrd : W.heap[g]? = some (rdr A bs.length c 0 (-1))) (hC : Kd.C (Kd.int .u8) W A bs.length bs) (hcap : bs.length ≤ c)
    (l3 : W.cell? ⟨5, 3, none⟩ = some (.int .u32 2)) (l4 : W.cell? ⟨5, 4, none⟩ = some (.int .u32 4)) : Calls Tryd.prog 23 #[.iface 71 (.pointer (some ⟨g, 0, none⟩))] W (CfgOut W wide high x3 x4 x5 ps) := by
  have hB1 := (Below.refl W.heap.size W).alloc (Nat.le_refl _) (.cells #[.int .i64 0, .slice none 0 0, .int .i64 0, .int .i64 0] 68)
  have RN := Aside0.mk (newDec_any hF (W.alloc (.cells #[.int .i64 0, .slice none 0 0, .int .i64 0, .int .i64 0] 68)) g A c (blk_below hB1 hrd) (Kd.C_below hC hB1) hcap (cell_below hB1 l3) (cell_below hB1 l4))
  have HB1 := Aside0.mk hB1
  have hz : (W.alloc (.cells #[.int .i64 0, .slice none 0 0, .int .i64 0, .int .i64 0] 68)).heap.size = W.heap.size + 1 := by simp
  have HZ := Aside0.mk hz
  have HK := Aside0.mk (show (W.alloc (.cells #[.int .i64 0, .slice none 0 0, .int .i64 0, .int .i64 0] 68)).heap[W.heap.size]? = some (.cells #[.int .i64 0, .slice none 0 0, .int .i64 0, .int .i64 0] 68 (0, 0)) from Go.Deep.blk_alloc_new W _)
  have HFL := Aside0.mk hF.pal
  clear hrd hC l3 l4 hB1 hz hF
  go_enter Tryd.func23, Tryd.ntmps23
  go_upto_region 4 with (go_at_call 31; (with_reducible refine RN.out.mono ?_); rintro e w1 ⟨rfl, T, pal, mode, k1, k2, k3, k4⟩; have K1 := Aside0.mk k1; have K3 := Aside0.mk k3; have K4 := Aside0.mk k4; clear k1 k2 k3 k4)
  have k3 := K3.out
  have k4 := K4.out
  rw [HZ.out] at k3 k4
  have kr := (K1.out.block W.heap.size (by rw [HZ.out]; omega)).trans HK.out
  obtain ⟨pv, hpv⟩ : ∃ pv : Value, pv = if x3 = 3 then pal else .slice none 0 0 := ⟨_, rfl⟩
  rw [← hpv] at k4
  have HPV : Aside0 (CfgPal w1 x3 ps pv ∧ ∀ pb, pv = .slice (some ⟨pb, 0, none⟩) 256 256 → PalB w1 pb (cols ps) → pb ≠ W.heap.size) := ⟨by
    refine ⟨?_, fun pb _ hp => ?_⟩
    · by_cases h3 : x3 = 3
      · obtain ⟨e, he, ht, hn⟩ := HFL.out h3
        obtain ⟨pb, h1, h2, _⟩ := k3 e he ht
        rw [if_pos h3] at hpv
        exact .inr ⟨h3, pb, hpv.trans h1, by rw [← hn]; exact h2⟩
      · rw [if_neg h3] at hpv
        exact .inl ⟨h3, hpv⟩
    · obtain ⟨cur, hb, _⟩ := hp
      exact blk_ne hb kr (by decide)⟩
  obtain ⟨PA, pn, pc, rfl⟩ : ∃ (PA : Option Addr) (pn pc : Nat), pv = .slice PA pn pc := by
    rcases HPV.out.1 with ⟨_, h⟩ | ⟨_, pb, h, _⟩
    · exact ⟨_, _, _, h⟩
    · exact ⟨_, _, _, h⟩
  have c2 := (blk_cell k4 2).trans (show _ = some (Value.int .i64 (kindN x3 x4 x5)) from rfl)
  have c3 := (blk_cell k4 3).trans (show _ = some (Value.slice PA pn pc) from rfl)
  have c4 := (blk_cell k4 4).trans (show _ = some (Value.int .i64 wide) from rfl)
  have c5 := (blk_cell k4 5).trans (show _ = some (Value.int .i64 high) from rfl)
  have z0 := (blk_cell kr 0).trans (show _ = some (Value.int .i64 0) from rfl)
  have z1 := (blk_cell kr 1).trans (show _ = some (Value.slice none 0 0) from rfl)
  have z2 := (blk_cell kr 2).trans (show _ = some (Value.int .i64 0) from rfl)
  have z3 := (blk_cell kr 3).trans (show _ = some (Value.int .i64 0) from rfl)
  have f0 := blk_frozen kr 0
  have f1 := blk_frozen kr 1
  have f2 := blk_frozen kr 2
  have f3 := blk_frozen kr 3
  have HKR := Aside0.mk kr
  have HBB := Aside0.mk (HB1.out.trans (K1.out.mono HB1.out.size))
  clear k3 k4 K3 K4 hpv K1 HFL RN HK HB1 HZ kr
  obtain ⟨kk, hkk⟩ : ∃ kk, kk = kindN x3 x4 x5 := ⟨_, rfl⟩
  rw [← hkk] at c2
  have HKK := Aside0.mk hkk
  clear hkk
  go_wp2_with (fail)
  clear c2 c3 c4 c5 z0 z1 z2 z3 f0 f1 f2 f3
  have s0 := Turn.set HKR.out 0 (.int .i64 kk)
  have s1 := Turn.set s0.2 1 (.slice PA pn pc)
  have s2 := Turn.set s1.2 2 (.int .i64 wide)
  have s3 := Turn.set s2.2 3 (.int .i64 high)
  have TT := Aside0.mk (((s0.1.trans s1.1 (fun k hk => .inl hk)).trans s2.1 (fun k hk => .inl hk)).trans s3.1 (fun k hk => .inl hk))
  have BK := s3.2
  clear s0 s1 s2 s3
  generalize (((w1.setCell ⟨W.heap.size, 0, none⟩ (.int .i64 kk)).setCell ⟨W.heap.size, 1, none⟩ (.slice PA pn pc)).setCell ⟨W.heap.size, 2, none⟩ (.int .i64 wide)).setCell ⟨W.heap.size, 3, none⟩ (.int .i64 high) = w2 at TT BK ⊢
  have c0 := (blk_cell BK 0).trans (show _ = some (Value.int .i64 kk) from rfl)
  have c1 := (blk_cell BK 1).trans (show _ = some (Value.slice PA pn pc) from rfl)
  have c2 := (blk_cell BK 2).trans (show _ = some (Value.int .i64 wide) from rfl)
  have c3 := (blk_cell BK 3).trans (show _ = some (Value.int .i64 high) from rfl)
  refine bodyPost_ret (v := .tuple #[.agg #[.int .i64 kk, .slice PA pn pc, .int .i64 wide, .int .i64 high], .nilIface]) (by simp [results, Tryd.results23, go_sem, c0, c1, c2, c3]) rfl ?_
  refine ⟨_, by rw [HKK.out], TT.out.below HBB.out HBB.out.size (fun k hk => by omega), ?_⟩
  rcases HPV.out.1 with h | ⟨h3, pb, h, hp⟩
  · exact .inl h
  · exact .inr ⟨h3, pb, h, hp.turn TT.out (HPV.out.2 pb h hp)⟩
end Go.Proofs.YtnodmobblamlgaaDoor
