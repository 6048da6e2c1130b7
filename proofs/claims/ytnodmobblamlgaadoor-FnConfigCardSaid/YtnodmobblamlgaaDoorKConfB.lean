/- impl.Config over a file that spec.Write makes. -/
import Derived.Test.YtnodmobblamlgaaDoorKConf
namespace Go.Proofs.YtnodmobblamlgaaDoor
open Go.RowKit Go.Proofs.YtnodmobblamlgaaDoor.PFnConfig Go.Proofs.YtnodmobblamlgaaDoorW.PrintWords Go.Proofs.YtnodmobblamlgaaDoorW.PrintLast Go.Proofs.YtnodmobblamlgaaDoorW.PrintMore
set_option linter.unusedVariables false
set_option linter.unusedSimpArgs false

theorem cols_rd (ps : List S57) (hl : ps.length = 256) (j : Nat) (hj : j < 256) : rd (cols ps) (j : Nat) = (ps[j]'(by omega)).f0 ∧ rd (cols ps) (j + 256 : Nat) = (ps[j]'(by omega)).f1 ∧ rd (cols ps) (j + 512 : Nat) = (ps[j]'(by omega)).f2 := by
  have e0 : ∀ c, (ps.map (fld c)).length = 256 := fun c => by rw [List.length_map, hl]
  have hrd : ∀ n : Nat, rd (cols ps) (n : Int) = ((cols ps)[n]?).getD 0 := fun n => by
    unfold rd
    rw [Int.toNat_natCast, List.getD_eq_getElem?_getD]
  rw [hrd, hrd, hrd]
  unfold cols
  have hj' : j < ps.length := by omega
  refine ⟨?_, ?_, ?_⟩
  · rw [List.getElem?_append_left (by rw [List.length_append, e0, e0]; omega), List.getElem?_append_left (by rw [e0]; omega), List.getElem?_map, List.getElem?_eq_getElem hj']
    rfl
  · rw [List.getElem?_append_left (by rw [List.length_append, e0, e0]; omega), List.getElem?_append_right (by rw [e0]; omega), e0, Nat.add_sub_cancel, List.getElem?_map, List.getElem?_eq_getElem hj']
    rfl
  · rw [List.getElem?_append_right (by rw [List.length_append, e0, e0]; omega), List.length_append, e0, e0, show j + 512 - (256 + 256) = j by omega, List.getElem?_map, List.getElem?_eq_getElem hj']
    rfl
theorem cols_in (ps : List S57) (hs : ∀ p ∈ ps, ShadeP p) : ∀ v ∈ cols ps, 0 ≤ v ∧ v < 65536 := by
  intro v hv
  simp only [cols, List.mem_append, List.mem_map] at hv
  rcases hv with (⟨p, hp, rfl⟩ | ⟨p, hp, rfl⟩) | ⟨p, hp, rfl⟩ <;> obtain ⟨x, y, z, rfl, h⟩ := hs p hp
  · show 0 ≤ 257 * x ∧ 257 * x < 65536
    omega
  · show 0 ≤ 257 * y ∧ 257 * y < 65536
    omega
  · show 0 ≤ 257 * z ∧ 257 * z < 65536
    omega
theorem cols_rd_in (ps : List S57) (hs : ∀ p ∈ ps, ShadeP p) (j : Nat) : 0 ≤ rd (cols ps) j ∧ rd (cols ps) j < 65536 := by
  unfold rd
  rcases Nat.lt_or_ge (j : Int).toNat (cols ps).length with h | h
  · rw [List.getD_eq_getElem?_getD, List.getElem?_eq_getElem h]
    exact cols_in ps hs _ (List.getElem_mem h)
  · rw [List.getD_eq_getElem?_getD, List.getElem?_eq_none h]
    simp
theorem shd_cols (ps : List S57) (hl : ps.length = 256) : (List.range 256).map (shd (cols ps)) = ps.map shadeOf := by
  apply List.ext_getElem
  · simp [hl]
  · intro j h1 h2
    have hj : j < 256 := by simpa using h1
    obtain ⟨a, b, c⟩ := cols_rd ps hl j hj
    simp only [List.getElem_map, List.getElem_range, shd, shadeOf]
    rw [a, b, c]

/-- The shades handed back. -/
def ShOut (W : World) (x3 : Int) (ps : List S57) (v : Value) (w' : World) : Prop := Below W.heap.size W w' ∧ ((x3 ≠ 3 ∧ v = .slice none 0 0) ∨ (x3 = 3 ∧ ∃ A c, v = .slice A 256 c ∧ 256 ≤ c ∧ Kd.C k76 w' A 256 (ps.map shadeOf)))
theorem shadesOf_any (x3 : Int) (ps : List S57) (hl : ps.length = 256) (hs : ∀ p ∈ ps, ShadeP p) (pv : Value) (W : World) (h : CfgPal W x3 ps pv) : Calls Tryd.prog 26 #[pv] W fun e w' => ∃ v, e = .returned v ∧ ShOut W x3 ps v w' := by
  rcases h with ⟨h3, rfl⟩ | ⟨h3, pb, rfl, hp⟩
  · refine (shadesOf_nil W).mono ?_
    rintro e w' ⟨rfl, hb⟩
    exact ⟨_, rfl, hb, .inl ⟨h3, rfl⟩⟩
  · refine (shadesOf_pal pb (cols ps) W hp (cols_rd_in ps hs)).mono ?_
    rintro e w' ⟨v, rfl, hr, hb⟩
    rw [shd_cols ps hl] at hr
    obtain ⟨A, c, rfl, h1, h2⟩ := Kd.R_reads hr
    rw [List.length_map, hl] at h1 h2 ⊢
    exact ⟨_, rfl, hb, .inr ⟨h3, A, c, rfl, h1, h2⟩⟩

theorem C_some {W : World} {A : Option Addr} {n : Nat} {k : IntKind} {xs : List Int} (h : Kd.C (Kd.int k) W A n xs) (hn : 0 < n) : ∃ ad, A = some ad := by
  obtain ⟨ad, e, _⟩ := (Kd.reads_of_C (enc := Value.int k) (d := (0 : Int)) h).2.2 hn
  exact ⟨ad, e⟩
theorem Filed.pos {big : Bool} {bs : List Int} {wide high : Nat} {x3 x4 x5 : Int} {ps : List S57} {es : List Ent} (h : Filed big bs wide high x3 x4 x5 ps es) : 0 < bs.length := by
  obtain ⟨d, hD⟩ := h.dir
  have := hD.fit
  have := hD.dir8
  omega
/-- What impl.Config tells. -/
def ConfOut (W : World) (wide high : Nat) (x3 x4 x5 : Int) (ps : List S57) (e : Ending) (w' : World) : Prop :=
  ∃ v, e = .returned (.tuple #[.int .i64 (kindN x3 x4 x5), .int .i64 wide, .int .i64 high, v, .int .i64 0]) ∧ ShOut W x3 ps v w'
set_option maxRecDepth 100000 in
set_option maxHeartbeats 6000000 in
theorem Config_any {big : Bool} {bs : List Int} {wide high : Nat} {x3 x4 x5 : Int} {ps : List S57} {es : List Ent} (hF : Filed big bs wide high x3 x4 x5 ps es) (hl : ps.length = 256) (hs : ∀ p ∈ ps, ShadeP p) (W : World) (A : Option Addr) (c : Nat) (hC : Kd.C (Kd.int .u8) W A bs.length bs) (hcap : bs.length ≤ c)
    (l3 : W.cell? ⟨5, 3, none⟩ = some (.int .u32 2)) (l4 : W.cell? ⟨5, 4, none⟩ = some (.int .u32 4)) : Calls Tryd.prog 11 #[.slice A bs.length c] W (ConfOut W wide high x3 x4 x5 ps) := by
  obtain ⟨ad, rfl⟩ := C_some hC hF.pos
  have hsz := hF.size
  have RC := Aside0.mk (clone_some ad c bs W hC hcap (by omega))
  have HF := Aside0.mk hF
  have HLS := Aside0.mk (And.intro hl hs)
  have HL3 := Aside0.mk l3
  have HL4 := Aside0.mk l4
  clear hC l3 l4 hF hl hs
  have RR := Aside0.mk (fun A n c w => newReader_any A n c w)
  go_enter Tryd.func11, Tryd.ntmps11
  have RD := Aside0.mk (fun (A1 : Option Addr) (c1 : Nat) (w1 : World) (hb : Below W.heap.size W w1) (hC : Kd.C (Kd.int .u8) w1 A1 bs.length bs) (hc : bs.length ≤ c1) =>
    have hb2 : Below w1.heap.size w1 (w1.alloc (rdr A1 bs.length c1 0 (-1))) := (Below.refl _ _).alloc (Nat.le_refl _) _
    DecodeConfig_any HF.out (w1.alloc (rdr A1 bs.length c1 0 (-1))) w1.heap.size A1 c1 (Go.Deep.blk_alloc_new w1 _) (Kd.C_below hC hb2) hc (cell_below hb2 (cell_below hb HL3.out)) (cell_below hb2 (cell_below hb HL4.out)))
  go_upto_region 4 with (first | (go_at_call 22; (with_reducible refine RC.out.mono ?_); rintro e w1 ⟨v, rfl, k1, k2⟩; obtain ⟨A1, c1, rfl, h1, h2⟩ := Kd.R_reads k1; have KB := Aside0.mk k2; have KC := Aside0.mk h2; have KL := Aside0.mk h1; clear k1 k2 h1 h2) | (go_at_call 24; (with_reducible refine (RR.out _ _ _ _).mono ?_); rintro e w2 ⟨rfl, rfl⟩) | (go_at_call 23; (with_reducible refine (RD.out _ _ _ KB.out KC.out KL.out).mono ?_); rintro e w3 ⟨pv, rfl, k1, k2⟩; have K3 := Aside0.mk k1; have KP := Aside0.mk k2; (obtain ⟨PA, pn, pc, rfl⟩ : ∃ (PA : Option Addr) (pn pc : Nat), pv = .slice PA pn pc := by rcases k2 with ⟨_, h⟩ | ⟨_, pb, h, _⟩ <;> exact ⟨_, _, _, h⟩); clear k1 k2))
  have hK := Go.Deep.blk_alloc_new w3 (.cells #[.int .i64 (kindN x3 x4 x5), .slice PA pn pc, .int .i64 wide, .int .i64 high] 68)
  have hB3 : Below W.heap.size W w3 := KB.out.trans (((Below.refl w1.heap.size w1).alloc (Nat.le_refl _) _).trans (K3.out.mono (by simp)) |>.mono KB.out.size)
  have hB4 := hB3.alloc hB3.size (.cells #[.int .i64 (kindN x3 x4 x5), .slice PA pn pc, .int .i64 wide, .int .i64 high] 68)
  have hP4 : CfgPal (w3.alloc (.cells #[.int .i64 (kindN x3 x4 x5), .slice PA pn pc, .int .i64 wide, .int .i64 high] 68)) x3 ps (.slice PA pn pc) := by
    rcases KP.out with h | ⟨h3, pb, h, hp⟩
    · exact .inl h
    · exact .inr ⟨h3, pb, h, hp.turn (Turn.fresh (S := fun _ => False) ((Below.refl w3.heap.size w3).alloc (Nat.le_refl _) _)) (fun hf => hf)⟩
  have HK4 := Aside0.mk hK
  have HB4 := Aside0.mk hB4
  have HP4 := Aside0.mk hP4
  clear hK hB3 hB4 hP4 KP K3 KB KC KL RC RR RD
  obtain ⟨kk, hkk⟩ : ∃ kk, kk = kindN x3 x4 x5 := ⟨_, rfl⟩
  have HKK := Aside0.mk hkk
  rw [← hkk] at HK4 HB4 HP4 ⊢
  clear hkk
  generalize w3.alloc (.cells #[.int .i64 kk, .slice PA pn pc, .int .i64 wide, .int .i64 high] 68) = w4 at HK4 HB4 HP4 ⊢
  have hc4 : w4.cell? ⟨w3.heap.size, 0, none⟩ = some (.int .i64 kk) ∧ w4.cell? ⟨w3.heap.size, 1, none⟩ = some (.slice PA pn pc) ∧ w4.cell? ⟨w3.heap.size, 2, none⟩ = some (.int .i64 wide) ∧ w4.cell? ⟨w3.heap.size, 3, none⟩ = some (.int .i64 high) := ⟨(blk_cell HK4.out 0).trans rfl, (blk_cell HK4.out 1).trans rfl, (blk_cell HK4.out 2).trans rfl, (blk_cell HK4.out 3).trans rfl⟩
  have hc4d : w4.drew.cell? ⟨w3.heap.size, 0, none⟩ = some (.int .i64 kk) ∧ w4.drew.cell? ⟨w3.heap.size, 1, none⟩ = some (.slice PA pn pc) ∧ w4.drew.cell? ⟨w3.heap.size, 2, none⟩ = some (.int .i64 wide) ∧ w4.drew.cell? ⟨w3.heap.size, 3, none⟩ = some (.int .i64 high) := hc4
  have HB4d : Aside0 (Below W.heap.size W w4.drew) := ⟨HB4.out.drew⟩
  have hPd : CfgPal w4.drew x3 ps (.slice PA pn pc) := HP4.out
  have HPd := Aside0.mk hPd
  clear hPd hc4 HP4 HK4 HB4
  refine start_ (n := 14) (S := fun w' => w'.cell? ⟨w3.heap.size, 0, none⟩ = some (.int .i64 kk) ∧ w'.cell? ⟨w3.heap.size, 1, none⟩ = some (.slice PA pn pc) ∧ w'.cell? ⟨w3.heap.size, 2, none⟩ = some (.int .i64 wide) ∧ w'.cell? ⟨w3.heap.size, 3, none⟩ = some (.int .i64 high)) (ds := []) #[false, false, false, false, false, false, false, false, false, false, false, false, false, false] (by kernel_rfl) rfl rfl hc4d (fun hh0 => ?_)
  clear hc4d
  generalize w4.drew = wd at HB4d HPd hh0 ⊢
  refine pure_ (i := 0) (N := some 21) (v := ?_) (a' := ?_) #[true, false, false, false, false, false, false, false, false, false, false, false, false, false] rfl rfl (by kernel_rfl) (fun _ _ _ h => h) (Or.inl ⟨by rfl, ?_⟩) ?_ ?_
  rotate_left
  · intro w'
    go_simp
    with_reducible rfl
  rotate_left
  · simp only [Act.put, List.setIfInBounds_toArray, List.set_cons_zero, List.set_cons_succ, i64_w, i32_w]
    rfl
  refine take_ (i := 1) (N := some 22) (v := ?_) (a' := ?_) #[true, true, false, false, false, false, false, false, false, false, false, false, false, false] rfl rfl (by kernel_rfl) (fun _ _ _ h => h) (Or.inl ⟨by rfl, ?_⟩) hh0 ?_ ?_
  rotate_left
  · rintro w' ⟨s0, s1, s2, s3⟩
    go_simp
    with_reducible rfl
  rotate_left
  · simp only [Act.put, List.setIfInBounds_toArray, List.set_cons_zero, List.set_cons_succ, i64_w, i32_w]
    rfl
  refine pure_ (i := 2) (N := some 23) (v := ?_) (a' := ?_) #[true, true, true, false, false, false, false, false, false, false, false, false, false, false] rfl rfl (by kernel_rfl) (fun _ _ _ h => h) (Or.inl ⟨by rfl, ?_⟩) ?_ ?_
  rotate_left
  · intro w'
    go_simp
    with_reducible rfl
  rotate_left
  · simp only [Act.put, List.setIfInBounds_toArray, List.set_cons_zero, List.set_cons_succ, i64_w, i32_w]
    rfl
  refine take_ (i := 3) (N := some 24) (v := ?_) (a' := ?_) #[true, true, true, true, false, false, false, false, false, false, false, false, false, false] rfl rfl (by kernel_rfl) (fun _ _ _ h => h) (Or.inl ⟨by rfl, ?_⟩) hh0 ?_ ?_
  rotate_left
  · rintro w' ⟨s0, s1, s2, s3⟩
    go_simp
    with_reducible rfl
  rotate_left
  · simp only [Act.put, List.setIfInBounds_toArray, List.set_cons_zero, List.set_cons_succ, i64_w, i32_w]
    rfl
  refine pure_ (i := 4) (N := some 25) (v := ?_) (a' := ?_) #[true, true, true, true, true, false, false, false, false, false, false, false, false, false] rfl rfl (by kernel_rfl) (fun _ _ _ h => h) (Or.inl ⟨by rfl, ?_⟩) ?_ ?_
  rotate_left
  · intro w'
    go_simp
    with_reducible rfl
  rotate_left
  · simp only [Act.put, List.setIfInBounds_toArray, List.set_cons_zero, List.set_cons_succ, i64_w, i32_w]
    rfl
  refine take_ (i := 5) (N := some 26) (v := ?_) (a' := ?_) #[true, true, true, true, true, true, false, false, false, false, false, false, false, false] rfl rfl (by kernel_rfl) (fun _ _ _ h => h) (Or.inl ⟨by rfl, ?_⟩) hh0 ?_ ?_
  rotate_left
  · rintro w' ⟨s0, s1, s2, s3⟩
    go_simp
    with_reducible rfl
  rotate_left
  · simp only [Act.put, List.setIfInBounds_toArray, List.set_cons_zero, List.set_cons_succ, i64_w, i32_w]
    rfl
  refine pure_ (i := 6) (N := some 27) (v := ?_) (a' := ?_) #[true, true, true, true, true, true, true, false, false, false, false, false, false, false] rfl rfl (by kernel_rfl) (fun _ _ _ h => h) (Or.inl ⟨by rfl, ?_⟩) ?_ ?_
  rotate_left
  · intro w'
    go_simp
    with_reducible rfl
  rotate_left
  · simp only [Act.put, List.setIfInBounds_toArray, List.set_cons_zero, List.set_cons_succ, i64_w, i32_w]
    rfl
  refine take_ (i := 7) (N := some 28) (v := ?_) (a' := ?_) #[true, true, true, true, true, true, true, true, false, false, false, false, false, false] rfl rfl (by kernel_rfl) (fun _ _ _ h => h) (Or.inl ⟨by rfl, ?_⟩) hh0 ?_ ?_
  rotate_left
  · rintro w' ⟨s0, s1, s2, s3⟩
    go_simp
    with_reducible rfl
  rotate_left
  · simp only [Act.put, List.setIfInBounds_toArray, List.set_cons_zero, List.set_cons_succ, i64_w, i32_w]
    rfl
  refine one_ (i := 8) (N := some 29) #[true, true, true, true, true, true, true, true, true, false, false, false, false, false] rfl rfl (by kernel_rfl) (by decide) (fun K hK => ?_)
  refine goes_ Tryd.func26 (by kernel_rfl) rfl #[.slice PA pn pc] (by rfl) rfl rfl (by simp [Act.eval]) ?_
  refine (shadesOf_any x3 ps HLS.out.1 HLS.out.2 (.slice PA pn pc) _ HPd.out).mono ?_
  rintro e w5 ⟨v, rfl, k1, k2⟩
  refine ⟨_, rfl, ?_⟩
  have FIN := Aside0.mk (show ConfOut W wide high x3 x4 x5 ps (.returned (.tuple #[.int .i64 kk, .int .i64 wide, .int .i64 high, v, .int .i64 0])) w5 from ⟨v, by rw [HKK.out], HB4d.out.trans (k1.mono HB4d.out.size), k2⟩)
  refine hK.out _ _ ⟨(cell_below k1 hh0.1), (cell_below k1 hh0.2.1), (cell_below k1 hh0.2.2.1), (cell_below k1 hh0.2.2.2)⟩ (fun hh1 => ?_)
  clear hK K k1 k2
  refine norm_ (a' := ?_) ?_ ?_
  rotate_left
  · show Act.put _ (some 29) _ = _
    simp only [Act.put, List.setIfInBounds_toArray, List.set_cons_zero, List.set_cons_succ, i64_w, i32_w]
    rfl
  refine pure_ (i := 9) (N := some 2) (v := ?_) (a' := ?_) #[true, true, true, true, true, true, true, true, true, true, false, false, false, false] rfl rfl (by kernel_rfl) (fun _ _ _ h => h) (Or.inl ⟨by rfl, ?_⟩) ?_ ?_
  rotate_left
  · intro w'
    go_simp
    with_reducible rfl
  rotate_left
  · simp only [Act.put, List.setIfInBounds_toArray, List.set_cons_zero, List.set_cons_succ, i64_w, i32_w]
    rfl
  refine pure_ (i := 10) (N := some 3) (v := ?_) (a' := ?_) #[true, true, true, true, true, true, true, true, true, true, true, false, false, false] rfl rfl (by kernel_rfl) (fun _ _ _ h => h) (Or.inl ⟨by rfl, ?_⟩) ?_ ?_
  rotate_left
  · intro w'
    go_simp
    with_reducible rfl
  rotate_left
  · simp only [Act.put, List.setIfInBounds_toArray, List.set_cons_zero, List.set_cons_succ, i64_w, i32_w]
    rfl
  refine pure_ (i := 11) (N := some 4) (v := ?_) (a' := ?_) #[true, true, true, true, true, true, true, true, true, true, true, true, false, false] rfl rfl (by kernel_rfl) (fun _ _ _ h => h) (Or.inl ⟨by rfl, ?_⟩) ?_ ?_
  rotate_left
  · intro w'
    go_simp
    with_reducible rfl
  rotate_left
  · simp only [Act.put, List.setIfInBounds_toArray, List.set_cons_zero, List.set_cons_succ, i64_w, i32_w]
    rfl
  refine pure_ (i := 12) (N := some 5) (v := ?_) (a' := ?_) #[true, true, true, true, true, true, true, true, true, true, true, true, true, false] rfl rfl (by kernel_rfl) (fun _ _ _ h => h) (Or.inl ⟨by rfl, ?_⟩) ?_ ?_
  rotate_left
  · intro w'
    go_simp
    with_reducible rfl
  rotate_left
  · simp only [Act.put, List.setIfInBounds_toArray, List.set_cons_zero, List.set_cons_succ, i64_w, i32_w]
    rfl
  refine pure_ (i := 13) (N := some 6) (v := ?_) (a' := ?_) #[true, true, true, true, true, true, true, true, true, true, true, true, true, true] rfl rfl (by kernel_rfl) (fun _ _ _ h => h) (Or.inl ⟨by rfl, ?_⟩) ?_ ?_
  rotate_left
  · intro w'
    go_simp
    with_reducible rfl
  rotate_left
  · simp only [Act.put, List.setIfInBounds_toArray, List.set_cons_zero, List.set_cons_succ, i64_w, i32_w]
    rfl
  refine done_ (by kernel_rfl) ?_
  go_wp2_with (fail)
  refine bodyPost_ret (results_tmp5 rfl _ _ _) rfl ?_
  exact FIN.out
end Go.Proofs.YtnodmobblamlgaaDoor
