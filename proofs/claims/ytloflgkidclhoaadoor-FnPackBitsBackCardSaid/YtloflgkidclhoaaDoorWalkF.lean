/- The contract of impl.PackBits at the dump of this seat. -/
import Derived.Test.YtloflgkidclhoaaDoorWalkE
namespace Go.Proofs.YtloflgkidclhoaaDoor
open Go.RowKit Go.Proofs.YtloflgkidclhoaaDoorW.PrintWords Go.Proofs.YtloflgkidclhoaaDoorW.PrintLast Go.Proofs.YtloflgkidclhoaaDoorW.PrintMore
set_option linter.unusedVariables false
set_option linter.unusedSimpArgs false

set_option maxHeartbeats 800000 in
theorem newReader (A : Option Addr) (n c : Nat) (w : World) :
    Calls Tryd.prog 12 #[.slice A n c] w fun e w' => e = .returned (.pointer (some ⟨w.heap.size, 0, none⟩)) ∧ w' = w.alloc (rdr A n c 0 (-1)) := by
  unfold rdr
  go_enter Tryd.func12, Tryd.ntmps12
  go_wp2
  go_ret
  exact ⟨rfl, rfl⟩

/-- What both PackBits leave: `good` and `bad` are the ends. -/
def PackPost (xs : List Int) (W : World) (good : Value → Value) (bad : Value → Prop) (e : Ending) (w' : World) : Prop :=
  Below W.heap.size W w' ∧ ((∃ v D, unp xs = some D ∧ e = .returned (good v) ∧ Kd.R (Kd.int .u8) 5 w' W.heap.size (fun _ => True) v D) ∨ (unp xs = none ∧ ∃ u, bad u ∧ e = .returned u))

/-- The two sentinels that the reader hands back. -/
structure Sent (W : World) : Prop where
  eof : ∃ a0, W.cell? ⟨0, 0, none⟩ = some (.iface 58 (.pointer (some a0)))
  un : ∃ a2, W.cell? ⟨2, 0, none⟩ = some (.iface 58 (.pointer (some a2)))
  big : 2 < W.heap.size
theorem Sent.below {W W' : World} (h : Sent W) (hb : Below W.heap.size W W') : Sent W' := by
  obtain ⟨a0, h0⟩ := h.eof
  obtain ⟨a2, h2⟩ := h.un
  exact ⟨⟨a0, (hb.cell (by have := h.big; simp; omega)).trans h0⟩, ⟨a2, (hb.cell (by have := h.big; simp; omega)).trans h2⟩, Nat.lt_of_lt_of_le h.big hb.size⟩

theorem rd_wf {xs : List Int} (h : ∀ x ∈ xs, 0 ≤ x ∧ x ≤ 255) (i : Int) : 0 ≤ rd xs i ∧ rd xs i ≤ 255 := by
  unfold rd
  rcases Nat.lt_or_ge i.toNat xs.length with hi | hi
  · rw [List.getD_eq_getElem?_getD, List.getElem?_eq_getElem hi]; exact h _ (List.getElem_mem hi)
  · rw [List.getD_eq_getElem?_getD, List.getElem?_eq_none hi]; decide

set_option maxHeartbeats 800000 in
theorem zz_any (A : Option Addr) (c : Nat) (xs : List Int) (W : World) (hr : Kd.C (Kd.int .u8) W A xs.length xs) (hc : xs.length ≤ c) (hl : xs.length ≤ 1000000) (hwf : ∀ x ∈ xs, 0 ≤ x ∧ x ≤ 255) (hs : Sent W) :
    Calls Tryd.prog 9 #[.slice A xs.length c] W (PackPost xs W (fun v => .tuple #[v, .nilIface]) (fun u => ∃ x, u = .tuple #[.slice none 0 0, .iface 58 x])) := by
  obtain ⟨a0, h0⟩ := hs.eof
  obtain ⟨a2, h2⟩ := hs.un
  have HN := Aside0.mk (newReader A xs.length c W)
  have hB1 := below_alloc (Below.refl W.heap.size W) (rdr A xs.length c 0 (-1))
  have HU := Aside0.mk (unpack_any W.heap.size A c xs (-1) a0 a2 (W.alloc (rdr A xs.length c 0 (-1))) (blk_new W _) (rd_wf hwf) hc hl
    (fun W' hT => Kd.C_below hr (Turn.below hB1 (by simp) hT (fun k hk => by omega)))
    ((hB1.cell (by have := hs.big; simp; omega)).trans h0) ((hB1.cell (by have := hs.big; simp; omega)).trans h2) hs.big)
  have HB1 := Aside0.mk hB1
  clear hr hs h0 h2 hB1
  go_enter Tryd.func9, Tryd.ntmps9
  go_wp2_with (first | (go_at_call 12; refine HN.out.mono ?_; rintro e w1 ⟨rfl, rfl⟩) | (go_at_call 11; refine HU.out.mono ?_; rintro e w2 ⟨hT, hE⟩; have HT := Aside0.mk hT; clear hT; rcases hE with ⟨v, D, hu, rfl, hR⟩ | ⟨hu, x, rfl⟩))
  · go_ret2
    exact ⟨Turn.below HB1.out (by simp) HT.out (fun k hk => by omega), .inl ⟨v, D, hu, rfl, Kd.R_lower hR (by simp)⟩⟩
  · go_ret2
    exact ⟨Turn.below HB1.out (by simp) HT.out (fun k hk => by omega), .inr ⟨hu, _, ⟨x, rfl⟩, rfl⟩⟩

theorem clone_any (A : Option Addr) (c : Nat) (xs : List Int) (w : World) (hr : Kd.C (Kd.int .u8) w A xs.length xs) (hc : xs.length ≤ c) (hl : xs.length ≤ 140737488355328) :
    Calls Tryd.prog 10 #[.slice A xs.length c] w fun e w' => ∃ v : Value, e = .returned v ∧ Kd.R (Kd.int .u8) 5 w' w.heap.size (fun _ => True) v xs ∧ Below w.heap.size w w' := by
  rcases A with _ | ad
  · have h0 : xs.length = 0 := by
      rcases Nat.eq_zero_or_pos xs.length with h | h
      · exact h
      · obtain ⟨_, h, _⟩ := hr.2.2 h; cases h
    obtain rfl : xs = [] := List.eq_nil_of_length_eq_zero h0
    exact (clone_nil c w).mono fun e w' ⟨h1, h2⟩ => ⟨_, h1, Kd.R_nil _ _ _ _ _, h2 ▸ Below.refl _ _⟩
  · exact clone_some ad c xs w hr hc hl

set_option maxHeartbeats 1600000 in
theorem pack_any (A : Option Addr) (c : Nat) (xs : List Int) (W : World) (hr : Kd.C (Kd.int .u8) W A xs.length xs) (hc : xs.length ≤ c) (hl : xs.length ≤ 1000000) (hwf : ∀ x ∈ xs, 0 ≤ x ∧ x ≤ 255) (hs : Sent W) :
    Calls Tryd.prog 6 #[.slice A xs.length c] W (PackPost xs W (fun v => .tuple #[v, .bool true]) (fun u => u = .tuple #[.slice none 0 0, .bool false])) := by
  have HC := Aside0.mk (clone_any A c xs W hr hc (by omega))
  have HS := Aside0.mk hs
  clear hr hs
  go_enter Tryd.func6, Tryd.ntmps6
  go_wp2_with fail
  refine HC.out.mono ?_
  rintro e w1 ⟨v1, rfl, hR1, hB1⟩
  obtain ⟨A1, c1, rfl, hc1, hC1⟩ := Kd.R_reads hR1
  have HB1 := Aside0.mk hB1
  have HZ := Aside0.mk (zz_any A1 c1 xs w1 hC1 hc1 hl hwf (HS.out.below hB1))
  clear hR1 hB1 hC1 HC
  go_wp2_with fail
  refine HZ.out.mono ?_
  rintro e w2 ⟨hB2, hE⟩
  have HB2 := Aside0.mk (HB1.out.trans (hB2.mono HB1.out.size))
  clear hB2 HZ
  rcases hE with ⟨v, D, hu, rfl, hR⟩ | ⟨hu, u, ⟨x, rfl⟩, rfl⟩
  · obtain ⟨A2, c2, rfl, hc2, hC2⟩ := Kd.R_reads hR
    have hD := unp_le _ xs D (Nat.le_refl _) hwf hu
    have HCL := Aside0.mk (clone_any A2 c2 D w2.drew (Kd.C_below hC2 ((Below.refl _ _).drew)) hc2 (by omega))
    clear hR hC2 hD
    have HU := Aside0.mk hu
    clear hu hwf
    go_wp2
    go_region_with (go_at_call 10; refine HCL.out.mono ?_; rintro e w3 ⟨v3, rfl, hR3, hB3⟩; have HR3 := Aside0.mk hR3; have HB3 := Aside0.mk hB3; clear hR3 hB3)
    all_goals go_wp2
    all_goals go_ret2
    all_goals exact ⟨HB2.out.drew.trans (HB3.out.mono HB2.out.size), .inl ⟨v3, D, HU.out, rfl, Kd.R_lower HR3.out HB2.out.size⟩⟩
  · have HCL := Aside0.mk (clone_nil 0 w2.drew)
    have HU := Aside0.mk hu
    clear hu hwf
    go_wp2
    go_region_with (go_at_call 10; refine HCL.out.mono ?_; rintro e w3 ⟨rfl, rfl⟩)
    all_goals go_wp2
    all_goals go_ret2
    all_goals exact ⟨HB2.out.drew, .inr ⟨HU.out, _, rfl, rfl⟩⟩
end Go.Proofs.YtloflgkidclhoaaDoor
