/- laws.FnEntries walked: true, whatever the picture. -/
import Derived.Test.YtnodmobblamlgaaDoorEEntPZI
import Derived.Test.YtnodmobblamlgaaDoorERowsB
import Derived.Test.YtnodmobblamlgaaDoorEConfC
namespace Go.Proofs.YtnodmobblamlgaaDoor
open Go.RowKit Go.Maps Go.Proofs.YtnodmobblamlgaaDoor.PFnConfig Go.Proofs.YtnodmobblamlgaaDoorW.PrintWords Go.Proofs.YtnodmobblamlgaaDoorW.PrintLast Go.Proofs.YtnodmobblamlgaaDoorW.PrintMore
set_option linter.unusedVariables false
set_option linter.unusedSimpArgs false

/-- Which rows must stand in the directory. -/
structure MustIn (es : List Ent) (tw : Nat) : Prop where
  len : es.length ≤ 16
  a1 : ∀ t : Int, t = 256 ∨ t = 257 ∨ t = 258 ∨ t = 259 ∨ t = 262 → ∃ e ∈ es, e.tag = t
  a2 : tw = 0 → ∀ t : Int, t = 273 ∨ t = 279 → ∃ e ∈ es, e.tag = t
  a3 : 0 < tw → ∀ t : Int, t = 324 ∨ t = 325 → ∃ e ∈ es, e.tag = t
theorem must_in (wide high : Nat) (x3 x4 x5 x6 : Int) (b7 : Bool) (tw th rows ch : Nat) (pl sz : List Int) (ps : List S57) : MustIn (entsOf wide high x3 x4 x5 x6 b7 tw th rows ch pl sz ps) tw := by
  refine ⟨?_, ?_, ?_, ?_⟩
  · unfold entsOf ents0 entsA entsB entsC entsD entsE entsF
    simp only [List.length_append]
    split <;> split <;> split <;> split <;> simp only [List.length_cons, List.length_nil] <;> (first | omega | (split <;> simp only [List.length_cons, List.length_nil] <;> omega))
  · rintro t (rfl | rfl | rfl | rfl | rfl)
    · exact ⟨⟨256, 3, [(wide : Int)]⟩, by simp [entsOf, ents0], rfl⟩
    · exact ⟨⟨257, 4, [(high : Int)]⟩, by simp [entsOf, ents0], rfl⟩
    · exact ⟨⟨258, 3, List.replicate ch x5⟩, by simp [entsOf, ents0], rfl⟩
    · exact ⟨⟨259, 3, [x6]⟩, by simp [entsOf, ents0], rfl⟩
    · exact ⟨⟨262, 3, [x3]⟩, by simp [entsOf, ents0], rfl⟩
  · rintro h t (rfl | rfl)
    · exact ⟨⟨273, 4, pl⟩, by simp [entsOf, entsA, h], rfl⟩
    · exact ⟨⟨279, 4, sz⟩, by simp [entsOf, entsB, h], rfl⟩
  · rintro h t (rfl | rfl)
    · exact ⟨⟨324, 4, pl⟩, by simp [entsOf, entsE, h], rfl⟩
    · exact ⟨⟨325, 4, sz⟩, by simp [entsOf, entsE, h], rfl⟩

section
variable {ops : Array Oper} {rest : List Oper} {o : Oper} {a : Act} {Q : Exit → Act → World → Prop}
theorem wpList_ins {w : World} (hg : o.guard = none) (m x v : Operand) (t : TypeId) (k : Int) (hop : o.op = Op.insert t m x v) {e : TypeId} (ht : Tryd.prog.underlying t = some (.map 3 e)) {b n : Nat} {f : Int → Option Value}
    (hm : a.eval m = .map (some b)) (h : IMap w b n f) (hn : n < maxLen) (hx : a.eval x = .int .i64 k) (hk : K64 k) (u : Value) (hv : a.eval v = u)
    (hK : ∀ w1, IMap w1 b (n + 1) (fun j => if j = k then some u else f j) → w.grownBy w1 (some b) → wpList Tryd.prog ops Q rest (a.put o.dst undef) w1) : wpList Tryd.prog ops Q (o :: rest) a w := by
  refine wpList_plain hg fun K' hK' => ?_
  obtain ⟨w1, hrun, r1, r2⟩ := h.upd ht hn hk u
  unfold Oper.wp
  simp [execOp, hop, hm, hx, hv, hrun, Result.andThen]
  exact hK' _ _ (hK w1 r1 r2)
end
/-- The rows of the directory as spec.Rows tells them. -/
def Want (w : World) (q : Nat) (es : List Ent) : Prop :=
  ∃ fw, IMap w q 100000 fw ∧ ∀ e ∈ es, ∃ A c, fw e.tag = some (.slice A e.nums.length c) ∧ e.nums.length ≤ c ∧ Kd.C (Kd.int .i64) w A e.nums.length e.nums
theorem want_of {w : World} {base q : Nat} {es : List Ent} (h : MapRows w base q 100000 es) : Want w q es := by
  obtain ⟨f, hI, _, h2⟩ := h
  refine ⟨f, hI, fun e he => ?_⟩
  obtain ⟨v, h3, h4⟩ := h2 e he
  obtain ⟨A, c, rfl, h5, h6⟩ := Kd.R_reads h4
  exact ⟨A, c, h3, h5, h6⟩
theorem Want.below {w w1 : World} {q : Nat} {es : List Ent} (h : Want w q es) (hb : Below w.heap.size w w1) : Want w1 q es := by
  obtain ⟨f, hI, h2⟩ := h
  refine ⟨f, hI.below hb, fun e he => ?_⟩
  obtain ⟨A, c, h3, h4, h5⟩ := h2 e he
  exact ⟨A, c, h3, h4, Kd.C_below h5 hb⟩
/-- Which keys the law asks for. -/
def MustKey (tw : Nat) (j : Int) : Prop := (j = 256 ∨ j = 257 ∨ j = 258 ∨ j = 259 ∨ j = 262) ∨ (tw = 0 ∧ (j = 273 ∨ j = 279)) ∨ (0 < tw ∧ (j = 324 ∨ j = 325))
def MustF (tw : Nat) (f : Int → Option Value) : Prop := ∀ j v, f j = some v → v = .bool false ∨ (v = .bool true ∧ MustKey tw j)
theorem must_f (tw : Nat) (b1 b2 : Bool) (h1 : b1 = ((tw : Int) == 0)) (h2 : b2 = decide (0 < tw)) :
    MustF tw (fun j => if j = 325 then some (.bool b2) else if j = 324 then some (.bool b2) else if j = 279 then some (.bool b1) else if j = 273 then some (.bool b1) else if j = 262 then some (.bool true) else if j = 259 then some (.bool true) else if j = 258 then some (.bool true) else if j = 257 then some (.bool true) else if j = 256 then some (.bool true) else none) := by
  have k1 : b1 = true → tw = 0 := fun h => by rw [h] at h1; simpa using h1.symm
  have k2 : b2 = true → 0 < tw := fun h => by rw [h] at h2; simpa using h2.symm
  have key : ∀ (b : Bool) (v : Value) (j : Int), some (Value.bool b) = some v → (b = true → MustKey tw j) → v = .bool false ∨ (v = .bool true ∧ MustKey tw j) := fun b v j h hm => by
    obtain rfl := Option.some.inj h
    cases b
    · exact .inl rfl
    · exact .inr ⟨rfl, hm rfl⟩
  intro j v h
  simp only at h
  split at h
  · exact key _ _ _ h (fun hb => .inr (.inr ⟨k2 hb, by omega⟩))
  split at h
  · exact key _ _ _ h (fun hb => .inr (.inr ⟨k2 hb, by omega⟩))
  split at h
  · exact key _ _ _ h (fun hb => .inr (.inl ⟨k1 hb, by omega⟩))
  split at h
  · exact key _ _ _ h (fun hb => .inr (.inl ⟨k1 hb, by omega⟩))
  split at h
  · exact key _ _ _ h (fun hb => .inl (by omega))
  split at h
  · exact key _ _ _ h (fun hb => .inl (by omega))
  split at h
  · exact key _ _ _ h (fun hb => .inl (by omega))
  split at h
  · exact key _ _ _ h (fun hb => .inl (by omega))
  split at h
  · exact key _ _ _ h (fun hb => .inl (by omega))
  · cases h
def MF (tw : Nat) (ts : List Int) (k : Nat) (f : Int → Option Value) : Prop := ∀ j v, f j = some v → v = .bool false ∨ (v = .bool true ∧ MustKey tw j ∧ j ∉ ts.take k)
theorem at_V {w : World} {A : Option Addr} {n : Nat} {ws : List (List Int)} (h : Kd.C (Kd.slice 39 (Kd.int .u64)) w A n ws) (k : Nat) (hk : k < n) :
    ∃ ad A' c, A = some ad ∧ w.cell? (ad.add k) = some (.slice A' (ws.getD k []).length c) ∧ (ws.getD k []).length ≤ c ∧ Kd.C (Kd.int .u64) w A' (ws.getD k []).length (ws.getD k []) := by
  obtain ⟨ad, c, rfl, hl, ⟨A', c', rfl, hle, hC⟩, hc⟩ := Kd.C_get h [] (k : Int) (by omega) (by omega)
  have h0 := hc 0 _ rfl
  simp only [show (Kd.slice 39 (Kd.int .u64)).sz = 1 from rfl, Int.toNat_natCast, Nat.mul_one, Nat.add_zero] at h0 hC hle
  exact ⟨ad, A', c', rfl, h0, hle, hC⟩
theorem at_I {w : World} {A : Option Addr} {n : Nat} {k : IntKind} {xs : List Int} (h : Kd.C (Kd.int k) w A n xs) (hn : 0 < n) : ∃ ad, A = some ad ∧ ∀ j v, xs[j]? = some v → j < n → w.cell? (ad.add j) = some (.int k v) := by
  obtain ⟨ad, e, hc⟩ := (Kd.reads_of_C (enc := Value.int k) (d := (0 : Int)) h).2.2 hn
  refine ⟨ad, e, fun j v hv hj => ?_⟩
  rw [hc j hj, List.getD_eq_getElem?_getD, hv]
  rfl
theorem asc_ge (ts : List Int) (h : ts.Pairwise (· < ·)) (hb : ∀ x ∈ ts, 256 ≤ x ∧ x ≤ 338) : ∀ i (hi : i < ts.length), (256 : Int) + i ≤ ts[i] := by
  intro i
  induction i with
  | zero => intro hi; have := hb ts[0] (List.getElem_mem hi); omega
  | succ i ih =>
    intro hi
    have h1 := ih (by omega)
    have h2 := List.pairwise_iff_getElem.1 h i (i + 1) (by omega) hi (by omega)
    omega
theorem asc_len (ts : List Int) (h : ts.Pairwise (· < ·)) (hb : ∀ x ∈ ts, 256 ≤ x ∧ x ≤ 338) : ts.length ≤ 83 := by
  rcases Nat.eq_zero_or_pos ts.length with h0 | h0
  · omega
  · have h1 := asc_ge ts h hb (ts.length - 1) (by omega)
    have h2 := hb (ts[ts.length - 1]'(by omega)) (List.getElem_mem _)
    omega
theorem listed_len {es : List Ent} {ts : List Int} {vs : List (List Int)} (h : Listed es ts vs) (hE : ∀ e ∈ es, EntD e) : ts.length ≤ 83 :=
  asc_len ts h.1 (fun x hx => by
    obtain ⟨e, he, _, rfl⟩ := (h.2.1 x).1 hx
    exact ⟨(hE e he).ok.tag1, (hE e he).ok.tag2⟩)
theorem MF.next {tw : Nat} {ts : List Int} {k : Nat} {f : Int → Option Value} {tg : Int} (h : MF tw ts k f) (ht : ts[k]? = some tg) : MF tw ts (k + 1) (fun j => if j = tg then some (.bool false) else f j) := by
  obtain ⟨hk, rfl⟩ := List.getElem?_eq_some_iff.1 ht
  intro j v hv
  simp only at hv
  split at hv
  · exact .inl (Option.some.inj hv).symm
  · rcases h j v hv with h1 | ⟨h1, h2, h3⟩
    · exact .inl h1
    · refine .inr ⟨h1, h2, fun hm => ?_⟩
      rw [List.take_succ_eq_append_getElem hk] at hm
      rcases List.mem_append.1 hm with hm | hm
      · exact h3 hm
      · rename_i hne _
        exact hne (List.mem_singleton.1 hm)
theorem must_listed {es : List Ent} {tw : Nat} {ts : List Int} {vs : List (List Int)} (hm : MustIn es tw) (hl : Listed es ts vs) (j : Int) (h : MustKey tw j) : j ∈ ts := by
  have key : ∀ t : Int, stored t → (∃ e ∈ es, e.tag = t) → t ∈ ts := fun t hs ⟨e, he, ht⟩ => (hl.2.1 t).2 ⟨e, he, by rw [ht]; exact hs, ht⟩
  rcases h with h | ⟨h0, h⟩ | ⟨h0, h⟩
  · exact key j (by unfold stored; omega) (hm.a1 j h)
  · exact key j (by unfold stored; omega) (hm.a2 h0 j h)
  · exact key j (by unfold stored; omega) (hm.a3 h0 j h)

set_option maxRecDepth 100000 in
set_option maxHeartbeats 16000000 in
theorem entries_walk (f a b : Nat) (W : World) (hf : f < 4294967296) (ha : a < 256) (hb' : b < 256) (l3 : W.cell? ⟨5, 3, none⟩ = some (.int .u32 2)) (l4 : W.cell? ⟨5, 4, none⟩ = some (.int .u32 4)) :
    Calls Tryd.prog 3 #[.int .u32 f, .int .u8 a, .int .u8 b] W fun e w' => e = .returned (.bool true) ∧ Below W.heap.size W w' := by
  have HL3 := Aside0.mk l3
  have HL4g := Aside0.mk l4
  have HSH := Aside0.mk (shapeOf_any f a b W hf ha hb')
  clear hf ha hb' l3 l4
  go_enter Tryd.func3, Tryd.ntmps3
  go_upto_region 2 with (go_at_call 5; (with_reducible refine HSH.out.mono ?_); rintro e w1 ⟨b0, wide, high, x3, x4, x5, x6, b7, tw, th, rows, k1, rfl, k2⟩; have HS := Aside0.mk k1; have K1 := Aside0.mk k2; clear k1 k2)
  have hk2 := Go.Deep.blk_alloc_new w1 (.cells #[.bool b0, .int .i64 wide, .int .i64 high, .int .i64 x3, .int .i64 x4, .int .i64 x5, .int .i64 x6, .bool b7, .int .i64 tw, .int .i64 th, .int .i64 rows] 24)
  have HB2 := Aside0.mk (K1.out.alloc K1.out.size (.cells #[.bool b0, .int .i64 wide, .int .i64 high, .int .i64 x3, .int .i64 x4, .int .i64 x5, .int .i64 x6, .bool b7, .int .i64 tw, .int .i64 th, .int .i64 rows] 24))
  have HK2 := Aside0.mk hk2
  clear hk2 HSH
  have HGB := Aside0.mk K1.out.size
  clear K1
  generalize w1.alloc (.cells #[.bool b0, .int .i64 wide, .int .i64 high, .int .i64 x3, .int .i64 x4, .int .i64 x5, .int .i64 x6, .bool b7, .int .i64 tw, .int .i64 th, .int .i64 rows] 24) = w2 at HB2 HK2 ⊢
  generalize w1.heap.size = gb at HK2 HGB ⊢
  have HB2d : Aside0 (Below W.heap.size W w2.drew) := ⟨HB2.out.drew⟩
  refine start_ (n := 6) (S := fun w' => w'.heap[gb]? = some (.cells #[.bool b0, .int .i64 wide, .int .i64 high, .int .i64 x3, .int .i64 x4, .int .i64 x5, .int .i64 x6, .bool b7, .int .i64 tw, .int .i64 th, .int .i64 rows] 24 (0, 0))) (ds := []) #[false, false, false, false, false, false] (by kernel_rfl) rfl rfl HK2.out (fun hh0 => ?_)
  clear HB2 HK2
  generalize w2.drew = wd at HB2d hh0 ⊢
  refine take_ (i := 0) (N := some 24) (v := ?_) (a' := ?_) #[true, false, false, false, false, false] rfl rfl (by kernel_rfl) (fun _ _ _ h => h) (Or.inl ⟨by rfl, ?_⟩) hh0 ?_ ?_
  rotate_left
  · rintro w' s2
    obtain ⟨c0, c1, c2, c3, c4, c5, c6, c7, c8, c9, c10⟩ := tiff_cells s2
    go_simp
    with_reducible rfl
  rotate_left
  · simp only [Act.put, List.setIfInBounds_toArray, List.set_cons_zero, List.set_cons_succ, i64_w, i32_w]
    rfl
  refine take_ (i := 1) (N := some 25) (v := ?_) (a' := ?_) #[true, true, false, false, false, false] rfl rfl (by kernel_rfl) (fun _ _ _ h => h) (Or.inl ⟨by rfl, ?_⟩) hh0 ?_ ?_
  rotate_left
  · rintro w' s2
    obtain ⟨c0, c1, c2, c3, c4, c5, c6, c7, c8, c9, c10⟩ := tiff_cells s2
    go_simp
    with_reducible rfl
  rotate_left
  · simp only [Act.put, List.setIfInBounds_toArray, List.set_cons_zero, List.set_cons_succ, i64_w, i32_w]
    rfl
  refine one_ (i := 2) (N := some 26) #[true, true, true, false, false, false] rfl rfl (by kernel_rfl) (by decide) (fun K hK => ?_)
  refine goes_ Tryd.func7 (by kernel_rfl) rfl #[.agg #[.bool b0, .int .i64 wide, .int .i64 high, .int .i64 x3, .int .i64 x4, .int .i64 x5, .int .i64 x6, .bool b7, .int .i64 tw, .int .i64 th, .int .i64 rows], .slice none 0 0] (by rfl) rfl rfl (by simp [Act.eval]) ?_
  refine (samples_c HS.out _).mono ?_
  rintro e w4 ⟨A4, c4, ss, rfl, k1, k2, k3⟩
  refine ⟨_, rfl, ?_⟩
  have HL4 := Aside0.mk k1
  have HS4 := Aside0.mk k2
  have HB4W := Aside0.mk (HB2d.out.trans (k3.mono HB2d.out.size))
  refine hK.out _ _ (blk_below k3 hh0) (fun hh1 => ?_)
  clear hK K k1 k2 k3
  refine norm_ (a' := ?_) ?_ ?_
  rotate_left
  · show Act.put _ (some 26) _ = _
    simp only [Act.put, List.setIfInBounds_toArray, List.set_cons_zero, List.set_cons_succ, i64_w, i32_w]
    rfl
  refine one_ (i := 3) (N := some 27) #[true, true, true, true, false, false] rfl rfl (by kernel_rfl) (by decide) (fun K hK => ?_)
  refine goes_ Tryd.func8 (by kernel_rfl) rfl #[.slice none 0 0] (by rfl) rfl rfl (by simp [Act.eval]) ?_
  refine (shades_any none 0 [] _ (Kd.C_nil _ _) (Nat.le_refl _) (fun x hx => by cases hx)).mono ?_
  rintro e w5 ⟨A3, c3, ps, rfl, k1, k2, k3, k4, k5⟩
  refine ⟨_, rfl, ?_⟩
  have HPL := Aside0.mk k1
  have HPC := Aside0.mk k2
  have HPS := Aside0.mk (And.intro k3 k4)
  have HS5 := Aside0.mk (Kd.C_below HS4.out k5)
  have HB5W := Aside0.mk (HB4W.out.trans (k5.mono HB4W.out.size))
  refine hK.out _ _ (blk_below k5 hh1) (fun hh2 => ?_)
  clear hK K k1 k2 k3 k4 k5 HS4
  refine norm_ (a' := ?_) ?_ ?_
  rotate_left
  · show Act.put _ (some 27) _ = _
    simp only [Act.put, List.setIfInBounds_toArray, List.set_cons_zero, List.set_cons_succ, i64_w, i32_w]
    rfl
  refine one_ (i := 4) (N := some 28) #[true, true, true, true, true, false] rfl rfl (by kernel_rfl) (by decide) (fun K hK => ?_)
  refine goes_ Tryd.func6 (by kernel_rfl) rfl #[.agg #[.bool b0, .int .i64 wide, .int .i64 high, .int .i64 x3, .int .i64 x4, .int .i64 x5, .int .i64 x6, .bool b7, .int .i64 tw, .int .i64 th, .int .i64 rows], .slice A4 (wide * high * chN x3 x4) c4, .slice A3 256 c3, .int .i64 1] (by rfl) rfl rfl (by simp [Act.eval]) ?_
  refine (Write_any b0 wide high x3 x4 x5 x6 b7 tw th rows HS.out A4 A3 c4 c3 (chN x3 x4) ss _ (chan_f _ _ _ _ _ _ _ _ _ _ _) (chN_le _ _).1 (chN_le _ _).2 ps HPC.out (cols_in ps HPS.out.2) HS5.out HL4.out).mono ?_
  rintro e w6 ⟨rs, pl, sz, A5, c5', bs, k1, k2, k3, k4, rfl, k5, k6, k7⟩
  refine ⟨_, rfl, ?_⟩
  have HFD := Aside0.mk (filed_of HS.out HPS.out.1 (cols_in ps HPS.out.2) k1 k3 k4)
  have HMI := Aside0.mk (must_in wide high x3 x4 x5 x6 b7 tw th rows (chN x3 x4) pl sz ps)
  have HC6 := Aside0.mk k6
  have HL6 := Aside0.mk k5
  have HB6W := Aside0.mk (HB5W.out.trans (k7.mono HB5W.out.size))
  generalize entsOf wide high x3 x4 x5 x6 b7 tw th rows (chN x3 x4) pl sz ps = es at HFD HMI
  refine hK.out _ _ (blk_below k7 hh2) (fun hh3 => ?_)
  clear hK K k1 k2 k3 k4 k5 k6 k7 HS5 HPC HPL HL4
  refine norm_ (a' := ?_) ?_ ?_
  rotate_left
  · show Act.put _ (some 28) _ = _
    simp only [Act.put, List.setIfInBounds_toArray, List.set_cons_zero, List.set_cons_succ, i64_w, i32_w]
    rfl
  refine pure_ (i := 5) (N := some 8) (v := ?_) (a' := ?_) #[true, true, true, true, true, true] rfl rfl (by kernel_rfl) (fun _ _ _ h => h) (Or.inl ⟨by rfl, ?_⟩) ?_ ?_
  rotate_left
  · intro w'
    go_simp
    with_reducible rfl
  rotate_left
  · simp only [Act.put, List.setIfInBounds_toArray, List.set_cons_zero, List.set_cons_succ, i64_w, i32_w]
    rfl
  refine done_ (by kernel_rfl) ?_
  have hc := HFD.out
  obtain ⟨d, hD⟩ := hc.dir
  have RW := Aside0.mk (Rows_any b0 A5 c5' d bs es w6 hD (fun e he => (hc.ent e he).ok) hc.asc HMI.out.len hc.size HL6.out HC6.out)
  have RE := Aside0.mk (fun w (hb : Below w6.heap.size w6 w) => Entries_any HFD.out w A5 c5' (Kd.C_below HC6.out hb) HL6.out (cell_below hb (cell_below HB6W.out HL3.out)) (cell_below hb (cell_below HB6W.out HL4g.out)))
  have HBX6 := Aside0.mk hh3
  have HEN := Aside0.mk hc.ent
  have HASC := Aside0.mk hc.asc
  clear hD hc hh3 hh0 hh1 hh2
  go_upto_region 7 with (first | (go_at_call 9; (with_reducible refine RW.out.mono ?_); rintro e w7 ⟨rfl, k1, k2⟩; have HW7 := Aside0.mk (want_of k1); have HB7 := Aside0.mk k2; clear k1 k2) | (go_at_call 10; (with_reducible refine (RE.out _ HB7.out).mono ?_); rintro e wm ⟨ts, vs, A1, c1, A2, c2, rfl, k1, k2, k3, k4, k5, k6⟩; have HTL := Aside0.mk (And.intro k1 k2); have HTC := Aside0.mk k3; have HVC := Aside0.mk k4; have HLI := Aside0.mk k5; have HB8 := Aside0.mk k6; clear k1 k2 k3 k4 k5 k6))
  have HWM := Aside0.mk (HW7.out.below HB8.out)
  have HBWM := Aside0.mk (HB6W.out.trans ((HB7.out.trans (HB8.out.mono HB7.out.size)).mono HB6W.out.size))
  have HBOX := Aside0.mk (blk_below HB8.out (blk_below HB7.out HBX6.out))
  clear RW RE HW7 HB7 HB8 HBX6 HC6 HL6 HL3 HL4g HB6W HB5W HB4W HB2d HPS
  generalize w6.heap.size = q at HWM ⊢
  have hmm := @run_makeMap Tryd.prog
  have M0 := Aside0.mk (IMap.made wm)
  have X0 := Aside0.mk ((Below.refl wm.heap.size wm).alloc (Nat.le_refl _) (.map #[] 0))
  obtain ⟨b1, hb1⟩ : ∃ b : Bool, b = ((tw : Int) == 0) := ⟨_, rfl⟩
  obtain ⟨b2, hb2⟩ : ∃ b : Bool, b = decide (0 < tw) := ⟨_, rfl⟩
  have HB1 := Aside0.mk hb1
  have HB2 := Aside0.mk hb2
  have hb1' : ((tw : Int) == 0) = b1 := hb1.symm
  have hb2' : decide (0 < tw) = b2 := hb2.symm
  clear hb1 hb2
  go_upto_region 8 with (first | ((with_reducible refine wpList_ins rfl (.tmp 46) (.const (.int .i64 256)) (.const (.bool true)) 37 256 rfl Tryd.underlying37 (b := wm.heap.size) (n := 0) (by first | rfl | (go_simp; done) | (go_simp; rfl)) M0.out (by decide) rfl (K64.mk (by decide) (by decide)) (.bool true) (by first | rfl | (go_simp; done) | (go_simp; rfl)) ?_); intro y1 hm hg; have M1 := Aside0.mk hm; have X1 := Aside0.mk (below_row X0.out hg (Nat.le_refl _) X0.out.size); have d8 := (blk_cell (blk_below X1.out HBOX.out) 8).trans (show _ = some (Value.int .i64 tw) from rfl); clear hm hg) | ((with_reducible refine wpList_ins rfl (.tmp 46) (.const (.int .i64 257)) (.const (.bool true)) 37 257 rfl Tryd.underlying37 (b := wm.heap.size) (n := 1) (by first | rfl | (go_simp; done) | (go_simp; rfl)) M1.out (by decide) rfl (K64.mk (by decide) (by decide)) (.bool true) (by first | rfl | (go_simp; done) | (go_simp; rfl)) ?_); intro y2 hm hg; have M2 := Aside0.mk hm; have X2 := Aside0.mk (below_row X1.out hg (Nat.le_refl _) X1.out.size); clear d8; have d8 := (blk_cell (blk_below X2.out HBOX.out) 8).trans (show _ = some (Value.int .i64 tw) from rfl); clear hm hg) | ((with_reducible refine wpList_ins rfl (.tmp 46) (.const (.int .i64 258)) (.const (.bool true)) 37 258 rfl Tryd.underlying37 (b := wm.heap.size) (n := 2) (by first | rfl | (go_simp; done) | (go_simp; rfl)) M2.out (by decide) rfl (K64.mk (by decide) (by decide)) (.bool true) (by first | rfl | (go_simp; done) | (go_simp; rfl)) ?_); intro y3 hm hg; have M3 := Aside0.mk hm; have X3 := Aside0.mk (below_row X2.out hg (Nat.le_refl _) X2.out.size); clear d8; have d8 := (blk_cell (blk_below X3.out HBOX.out) 8).trans (show _ = some (Value.int .i64 tw) from rfl); clear hm hg) | ((with_reducible refine wpList_ins rfl (.tmp 46) (.const (.int .i64 259)) (.const (.bool true)) 37 259 rfl Tryd.underlying37 (b := wm.heap.size) (n := 3) (by first | rfl | (go_simp; done) | (go_simp; rfl)) M3.out (by decide) rfl (K64.mk (by decide) (by decide)) (.bool true) (by first | rfl | (go_simp; done) | (go_simp; rfl)) ?_); intro y4 hm hg; have M4 := Aside0.mk hm; have X4 := Aside0.mk (below_row X3.out hg (Nat.le_refl _) X3.out.size); clear d8; have d8 := (blk_cell (blk_below X4.out HBOX.out) 8).trans (show _ = some (Value.int .i64 tw) from rfl); clear hm hg) | ((with_reducible refine wpList_ins rfl (.tmp 46) (.const (.int .i64 262)) (.const (.bool true)) 37 262 rfl Tryd.underlying37 (b := wm.heap.size) (n := 4) (by first | rfl | (go_simp; done) | (go_simp; rfl)) M4.out (by decide) rfl (K64.mk (by decide) (by decide)) (.bool true) (by first | rfl | (go_simp; done) | (go_simp; rfl)) ?_); intro y5 hm hg; have M5 := Aside0.mk hm; have X5 := Aside0.mk (below_row X4.out hg (Nat.le_refl _) X4.out.size); clear d8; have d8 := (blk_cell (blk_below X5.out HBOX.out) 8).trans (show _ = some (Value.int .i64 tw) from rfl); clear hm hg) | ((with_reducible refine wpList_ins rfl (.tmp 46) (.const (.int .i64 273)) (.tmp 49) 37 273 rfl Tryd.underlying37 (b := wm.heap.size) (n := 5) (by first | rfl | (go_simp; done) | (go_simp; rfl)) M5.out (by decide) rfl (K64.mk (by decide) (by decide)) (.bool b1) (by first | rfl | (go_simp; done) | (go_simp; rfl)) ?_); intro y6 hm hg; have M6 := Aside0.mk hm; have X6 := Aside0.mk (below_row X5.out hg (Nat.le_refl _) X5.out.size); clear d8; have d8 := (blk_cell (blk_below X6.out HBOX.out) 8).trans (show _ = some (Value.int .i64 tw) from rfl); clear hm hg) | ((with_reducible refine wpList_ins rfl (.tmp 46) (.const (.int .i64 279)) (.tmp 52) 37 279 rfl Tryd.underlying37 (b := wm.heap.size) (n := 6) (by first | rfl | (go_simp; done) | (go_simp; rfl)) M6.out (by decide) rfl (K64.mk (by decide) (by decide)) (.bool b1) (by first | rfl | (go_simp; done) | (go_simp; rfl)) ?_); intro y7 hm hg; have M7 := Aside0.mk hm; have X7 := Aside0.mk (below_row X6.out hg (Nat.le_refl _) X6.out.size); clear d8; have d8 := (blk_cell (blk_below X7.out HBOX.out) 8).trans (show _ = some (Value.int .i64 tw) from rfl); clear hm hg) | ((with_reducible refine wpList_ins rfl (.tmp 46) (.const (.int .i64 324)) (.tmp 55) 37 324 rfl Tryd.underlying37 (b := wm.heap.size) (n := 7) (by first | rfl | (go_simp; done) | (go_simp; rfl)) M7.out (by decide) rfl (K64.mk (by decide) (by decide)) (.bool b2) (by first | rfl | (go_simp; done) | (go_simp; rfl)) ?_); intro y8 hm hg; have M8 := Aside0.mk hm; have X8 := Aside0.mk (below_row X7.out hg (Nat.le_refl _) X7.out.size); clear d8; have d8 := (blk_cell (blk_below X8.out HBOX.out) 8).trans (show _ = some (Value.int .i64 tw) from rfl); clear hm hg) | ((with_reducible refine wpList_ins rfl (.tmp 46) (.const (.int .i64 325)) (.tmp 58) 37 325 rfl Tryd.underlying37 (b := wm.heap.size) (n := 8) (by first | rfl | (go_simp; done) | (go_simp; rfl)) M8.out (by decide) rfl (K64.mk (by decide) (by decide)) (.bool b2) (by first | rfl | (go_simp; done) | (go_simp; rfl)) ?_); intro y9 hm hg; have M9 := Aside0.mk hm; have X9 := Aside0.mk (below_row X8.out hg (Nat.le_refl _) X8.out.size); clear d8; have d8 := (blk_cell (blk_below X9.out HBOX.out) 8).trans (show _ = some (Value.int .i64 tw) from rfl); clear hm hg))
  have hmf := must_f tw b1 b2 HB1.out HB2.out
  have HMF := Aside0.mk (show MF tw ts 0 _ from fun j v h => (hmf j v h).elim .inl (fun h2 => .inr ⟨h2.1, h2.2, by simp⟩))
  clear hmf hmm d8 hb1' hb2' M0 M1 M2 M3 M4 M5 M6 M7 M8 X0 X1 X2 X3 X4 X5 X6 X7 X8 y1 y2 y3 y4 y5 y6 y7 y8 HS
  go_wp2_with (fail)
  go_loopg [14, 15, 16, 17, 62] ts.length (fun kq v14 v15 v16 v17 v62 wq => ∃ (k : Nat) (fk : Int → Option Value), v62 = .int .i64 k ∧ Aside0 (kq = ts.length - k ∧ k ≤ ts.length) ∧ Aside0 (IMap wq wm.heap.size (9 + k) fk) ∧ Aside0 (MF tw ts k fk) ∧ Aside0 (Below wm.heap.size wm wq))
  case atStart => exact ⟨0, _, rfl, ⟨rfl, by omega⟩, M9, HMF, X9⟩
  case round =>
    clear M9 HMF X9
    obtain ⟨k, fk, rfl, HK, HIM, HMF, HBL⟩ := hrel
    have hk1 := HK.out.2
    rcases Nat.lt_or_ge k ts.length with hk | hk
    · obtain ⟨tg, htg⟩ : ∃ t, ts[k]? = some t := ⟨_, List.getElem?_eq_getElem hk⟩
      obtain ⟨ee, hee, hst, het⟩ := (HLI.out.2.1 tg).1 (List.mem_of_getElem? htg)
      obtain rfl := het
      have hvk := HLI.out.2.2.2 k ee hee hst htg
      have hok := (HEN.out ee hee).ok
      have hq : K64 ee.tag := K64.mk (by have := hok.tag1; omega) (by have := hok.tag2; omega)
      obtain ⟨ad1, e1, ht1⟩ := at_I (Kd.C_below HTC.out HBL.out) (by omega)
      obtain ⟨ad2, AV, cV, e2, hv1, hv2, hv3⟩ := at_V (Kd.C_below HVC.out HBL.out) k hk
      subst e1 e2
      rw [show vs.getD k [] = ee.nums by rw [List.getD_eq_getElem?_getD, hvk]; rfl] at hv1 hv2 hv3
      obtain ⟨fw, hI, hw2⟩ := HWM.out.below HBL.out
      obtain ⟨AW, cW, hw3, hw4, hw5⟩ := hw2 ee hee
      have hlkN : ∀ n, (Instr.lookup 32 (.map (some q)) (.int .i64 ee.tag) false).run Tryd.prog (wr.drewN n) = .ok (.slice AW ee.nums.length cW) (wr.drewN n) := fun n => by
        have h := (hI.drewN n).look Tryd.underlying32 (zero28 _) hq
        rwa [hw3] at h
      have hlk : (Instr.lookup 32 (.map (some q)) (.int .i64 ee.tag) false).run Tryd.prog wr = .ok (.slice AW ee.nums.length cW) wr := by
        have h := hI.look Tryd.underlying32 (zero28 _) hq
        rwa [hw3] at h
      have ctk := ht1 k ee.tag htg hk
      have hn1 : 1 ≤ ee.nums.length := hok.n1
      have hn2 : ee.nums.length ≤ 768 := hok.n2
      have HLK := Aside0.mk hlkN
      have HT1 := Aside0.mk ht1
      have HV3 := Aside0.mk (And.intro hv2 hv3)
      have HW5 := Aside0.mk (And.intro hw4 hw5)
      have HEE := Aside0.mk (And.intro hee (And.intro hst (And.intro htg hok)))
      have HQ := Aside0.mk hq
      have hsl := listed_len HLI.out HEN.out
      clear ht1 hv2 hv3 hw4 hw5 hw2 hw3 hI hee hst htg hok hvk hq
      obtain ⟨ln, hln⟩ : ∃ ln, ln = ee.nums.length := ⟨_, rfl⟩
      rw [← hln] at hv1 hlkN hlk hn1 hn2
      have HLN := Aside0.mk hln
      obtain ⟨tg, hgt⟩ : ∃ tg, tg = ee.tag := ⟨_, rfl⟩
      rw [← hgt] at hlkN hlk ctk
      have HGT := Aside0.mk hgt
      clear hln hgt
      have hln0 : ((ln : Int) == 0) = false := beq_eq_false_iff_ne.mpr (by omega)
      go_upto_region 11 with (fail)
      go_cut [97] from 67 to 97 (fun v wx => v = .bool false ∧ ∃ nd, wx = wr.drewN nd)
      case first =>
        rcases Nat.eq_zero_or_pos k with hk0 | hkp
        · have hd0 : decide (0 < k) = false := decide_eq_false (by omega)
          have hd1 : decide ((0 : Int) < (k : Int)) = false := decide_eq_false (by omega)
          clear hk0
          go_quiet (fail)
          go_wp2_with (fail)
          go_meet
          exact ⟨rfl, _, rfl⟩
        · obtain ⟨m, hm⟩ : ∃ m, m = k - 1 := ⟨_, rfl⟩
          obtain ⟨tm, htm⟩ : ∃ t, ts[m]? = some t := ⟨_, List.getElem?_eq_getElem (by omega)⟩
          have ctm := HT1.out m tm htm (by omega)
          have hlt2 : tm < tg := by
            have h1 := HLI.out.1
            rw [List.pairwise_iff_getElem] at h1
            have h2 := h1 m k (by omega) hk (by omega)
            rw [List.getElem?_eq_getElem (by omega)] at htm
            have h3 := HEE.out.2.2.1
            rw [List.getElem?_eq_getElem hk] at h3
            have e1 := Option.some.inj htm
            have e2 := Option.some.inj h3
            rw [HGT.out, ← e2, ← e1]
            exact h2
          have hd0 : decide (0 < k) = true := decide_eq_true hkp
          have hd1 : decide ((0 : Int) < (k : Int)) = true := decide_eq_true (by omega)
          have hd2 : decide (tg ≤ tm) = false := decide_eq_false (by omega)
          have hm0 : (0 : Int) ≤ (m : Int) := by omega
          have hml : (m : Int) < (ts.length : Int) := by omega
          have hml2 : m < ts.length := by omega
          have hwr : IntKind.i64.wrap ((k : Int) - 1) = (m : Int) := by rw [IntKind.wrap_i64]; omega
          have htn : ((m : Int)).toNat = m := Int.toNat_natCast m
          clear htm hm hlt2
          go_quiet (fail)
          go_wp2_with (fail)
          go_meet
          exact ⟨rfl, _, rfl⟩
      case rest =>
      obtain ⟨rfl, nd, rfl⟩ := hcut
      have hlk3 := HLK.out nd
      rw [← HGT.out] at hlk3
      have HIM2 := Aside0.mk (HIM.out.drewN nd)
      have HBL2 := Aside0.mk (pw_below_drewN HBL.out nd)
      have hv2 : (wr.drewN nd).cell? (ad2.add k) = some (.slice AV ln cV) := hv1
      have HVV : Aside0 (Kd.C (Kd.int .u64) (wr.drewN nd) AV ee.nums.length ee.nums) := ⟨Kd.C_below HV3.out.2 (pw_below_drewN (Below.refl _ _) nd)⟩
      have HWW : Aside0 (Kd.C (Kd.int .i64) (wr.drewN nd) AW ee.nums.length ee.nums) := ⟨Kd.C_below HW5.out.2 (pw_below_drewN (Below.refl _ _) nd)⟩
      rw [← HLN.out] at hlk3
      clear hv1 hlkN hlk ctk HLK HIM HBL HV3 HW5 HT1
      generalize wr.drewN nd = wx at hlk3 HIM2 HBL2 hv2 HVV HWW ⊢
      obtain ⟨adv, ev1, hcv⟩ := at_I HVV.out (by rw [← HLN.out]; omega)
      obtain ⟨adw, ev2, hcw⟩ := at_I HWW.out (by rw [← HLN.out]; omega)
      subst ev1 ev2
      have HCV := Aside0.mk (And.intro hcv hcw)
      clear hcv hcw HVV HWW
      go_wp2_with (fail)
      obtain ⟨go, rfl⟩ : ∃ go : Nat, go = gk := ⟨_, rfl⟩
      go_loopg [16, 17, 103] ln (fun kq v16 v17 v103 wq => ∃ j : Nat, v103 = .int .i64 j ∧ Aside0 (kq = ln - j ∧ j ≤ ln) ∧ wx = wq)
      case atStart => exact ⟨0, rfl, ⟨rfl, by omega⟩, rfl⟩
      case round =>
        obtain ⟨j, rfl, HJ, rfl⟩ := hrel
        have hj1 := HJ.out.2
        rcases Nat.lt_or_ge j ln with hj | hj
        · obtain ⟨u, hu⟩ : ∃ u, ee.nums[j]? = some u := ⟨_, List.getElem?_eq_getElem (by rw [← HLN.out]; exact hj)⟩
          have hub := HEE.out.2.2.2.vals u (List.mem_of_getElem? hu)
          have u0 := hub.1
          have u1 := hub.2.2
          have cvj := HCV.out.1 j u hu (by rw [← HLN.out]; exact hj)
          have cwj := HCV.out.2 j u hu (by rw [← HLN.out]; exact hj)
          clear hub hu
          go_wp2_with (fail)
          go_roundg (ln - (j + 1))
          case measure => have := HJ.out; omega
          case rel => exact ⟨j + 1, by go_num, ⟨rfl, by omega⟩, rfl⟩
        · obtain rfl : ln = j := by omega
          have HK6 : Aside0 (K64 tg) := ⟨by rw [HGT.out]; exact HQ.out⟩
          go_wp2_with ((with_reducible refine wpList_upd rfl (.tmp 118) (.tmp 119) (.const (.bool false)) 37 rfl Tryd.underlying37 (b := wm.heap.size) (n := 9 + k) (by first | rfl | (go_simp; done) | (go_simp; rfl)) HIM2.out (by unfold maxLen; omega) (by first | rfl | (go_simp; done) | (go_simp; rfl)) HK6.out (.bool false) (by first | rfl | (go_simp; done) | (go_simp; rfl)) ?_); intro wy hm hg; have HM7 := Aside0.mk hm; have HB7 := Aside0.mk (below_row HBL2.out hg (Nat.le_refl _) HBL2.out.size); clear hm hg)
          go_roundg (ts.length - (k + 1))
          case measure => have := HK.out; omega
          case rel => exact ⟨k + 1, _, by go_num, ⟨rfl, by omega⟩, HM7, ⟨HMF.out.next (by rw [HGT.out]; exact HEE.out.2.2.1)⟩, HB7⟩
    · obtain rfl : k = ts.length := by omega
      obtain ⟨D, hown, hD, hf⟩ := HIM.out
      have HOWN := Aside0.mk hown
      have HFA : Aside0 (∀ x c, K64 x → Maps.has D (.int .i64 x) = true → (∀ zd, D.atKey (.int .i64 x) zd = .held c) → c = .bool false) := ⟨fun x c hx hh hat => by
        obtain ⟨a1, a2⟩ := hf x hx
        rw [hh] at a1
        obtain ⟨v, hv⟩ := Option.isSome_iff_exists.1 a1.symm
        have e1 := (hat .nil).symm.trans (a2 v hv .nil)
        have e2 : c = v := by injection e1
        subst e2
        rcases HMF.out x c hv with h | ⟨_, h2, h3⟩
        · exact h
        · exact absurd (by rw [List.take_length]; exact must_listed HMI.out HLI.out x h2) h3⟩
      clear hown hD hf HIM HMF
      go_wp2_with (at_range; refine wpList_range_own _ rfl _ 37 rfl 3 4 law3 Tryd.underlying37 raw wm.heap.size (9 + ts.length) D rfl HOWN.out ?_; intro w0 hrg0 hg0 hs0; have HRG0 := Aside0.mk hrg0; have HG0 := Aside0.mk hg0; have HS0 := Aside0.mk hs0; clear hrg0 hg0 hs0)
      go_frame
      have HXB : Aside0 (Below W.heap.size W w0) := ⟨HBWM.out.trans ((HBL.out.trans ((show Below wr.heap.size wr w0 from ⟨HG0.out.os, HG0.out.tape, HG0.out.output, HG0.out.size, fun k hk => HG0.out.block k hk (by simp)⟩).mono HBL.out.size)).mono HBWM.out.size)⟩
      obtain ⟨r, hr⟩ : ∃ r, r = wr.heap.size := ⟨_, rfl⟩
      rw [← hr] at HRG0 ⊢
      have HRW : Aside0 (W.heap.size ≤ r) := ⟨by rw [hr]; exact Nat.le_trans HBWM.out.size HBL.out.size⟩
      clear hr HG0 HS0
      go_loopg [19] (Maps.size D) (fun kq v19 wq => ∃ (left : Lit → Bool) (cnt : Nat), Aside0 (kq = cnt) ∧ Aside0 (wq.ranges Tryd.prog 3 raw wm.heap.size r (9 + ts.length) D left cnt) ∧ Aside0 (Below W.heap.size W wq))
      case atStart => exact ⟨_, _, ⟨rfl⟩, HRG0, HXB⟩
      case round =>
        clear HRG0 HXB
        obtain ⟨left, cnt, HK3, HRG, HBR⟩ := hrel
        go_wp2_with (at_next; refine wpList_next_ranges _ rfl _ rfl 3 law3 raw (Value.int .i64) id (fun key kl hkey => by obtain ⟨x, rfl, _⟩ := Maps.keyOf_int_inv Tryd.underlying3 hkey; exact ⟨x, rfl⟩) (fun v y hv => ⟨v, rfl⟩) wm.heap.size r (9 + ts.length) D left cnt rfl HRG.out ?_ ?_)
        case refine_1 =>
          intro hc0 hl0
          clear hc0 hl0
          go_wp2_with (fail)
          go_ret
          exact ⟨rfl, HBR.out⟩
        case refine_2 =>
          intro x cc kl ya yb w2 cnt1 hk hlk hv hat hrg1 hlt hg1 hs1 hen
          obtain ⟨x', ex, rfl, hx⟩ := Maps.keyOf_int_inv Tryd.underlying3 hk
          obtain rfl : x = x' := by injection ex
          have hh := Maps.has_true_of_atKey hat
          have hya : DataW.held cc = ya := by
            have h1 : raw cc = some (ya, yb) := hv
            unfold raw at h1
            exact congrArg Prod.fst (Option.some.inj h1)
          obtain rfl : cc = .bool false := HFA.out x cc hx hh (fun zd => (hat zd).trans hya.symm)
          have HRG1 := Aside0.mk hrg1
          have HLT := Aside0.mk hlt
          have HB9 := Aside0.mk (below_row HBR.out hg1 HRW.out HBR.out.size)
          clear hk hlk hv hat hrg1 hlt hg1 hs1 hh hx ex hya HRG HBR
          go_wp2_with (fail)
          go_roundg cnt1
          case measure => have := HK3.out; have := HLT.out; omega
          case rel => exact ⟨_, cnt1, ⟨rfl⟩, HRG1, HB9⟩
end Go.Proofs.YtnodmobblamlgaaDoor
