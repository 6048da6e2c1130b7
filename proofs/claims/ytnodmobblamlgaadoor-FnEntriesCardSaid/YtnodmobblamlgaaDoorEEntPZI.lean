/- The plain side of the sorted listing: a number put into an ascending list. -/
import Derived.Test.YtnodmobblamlgaaDoorEFiled
import Derived.Test.YtnodmobblamlgaaDoorEConfB
namespace Go.Proofs.YtnodmobblamlgaaDoor
open Go.RowKit
set_option linter.unusedVariables false
set_option linter.unusedSimpArgs false

/-- One step of the shifting. -/
theorem shift_step (ts : List Int) (i : Nat) (hi : 0 < i) (hl : i ≤ ts.length) (y : Int) :
    ((ts.take i ++ y :: ts.drop i)[i - 1]? = ts[i - 1]?) ∧ (ts.take i ++ y :: ts.drop i).set i ((ts[i - 1]?).getD 0) = ts.take (i - 1) ++ ((ts[i - 1]?).getD 0) :: ts.drop (i - 1) := by
  have hl1 : (ts.take i).length = i := by rw [List.length_take]; omega
  have hi1 : i - 1 < ts.length := by omega
  constructor
  · rw [List.getElem?_append_left (by omega), List.getElem?_take_of_lt (by omega)]
  · rw [List.set_append, if_neg (by omega), hl1, Nat.sub_self, List.set_cons_zero]
    have e1 : ts.take i = ts.take (i - 1) ++ [ts[i - 1]] := by
      have := List.take_succ_eq_append_getElem hi1
      rwa [show i - 1 + 1 = i by omega] at this
    have e2 : ts.drop (i - 1) = ts[i - 1] :: ts.drop i := by
      have := List.drop_eq_getElem_cons hi1
      rwa [show i - 1 + 1 = i by omega] at this
    rw [e1, e2, List.getElem?_eq_getElem hi1, List.append_assoc]
    rfl
theorem shift_end (ts : List Int) (i : Nat) (hl : i ≤ ts.length) (y t : Int) : (ts.take i ++ y :: ts.drop i).set i t = ts.take i ++ t :: ts.drop i := by
  have hl1 : (ts.take i).length = i := by rw [List.length_take]; omega
  rw [List.set_append, if_neg (by omega), hl1, Nat.sub_self, List.set_cons_zero]
theorem shift_length (ts : List Int) (i : Nat) (hl : i ≤ ts.length) (y : Int) : (ts.take i ++ y :: ts.drop i).length = ts.length + 1 := by
  rw [List.length_append, List.length_cons, List.length_take, List.length_drop]
  omega
theorem shift_start (ts : List Int) (t : Int) : ts ++ [t] = ts.take ts.length ++ t :: ts.drop ts.length := by simp
/-- What the shifting ends in is ascending again, and holds one number more. -/
theorem put_sorted (ts : List Int) (i : Nat) (hl : i ≤ ts.length) (t : Int) (hs : ts.Pairwise (· < ·)) (hd : ∀ x ∈ ts.drop i, t < x) (hb : ∀ x, ts[i - 1]? = some x → 0 < i → x ≤ t) (hn : t ∉ ts) :
    (ts.take i ++ t :: ts.drop i).Pairwise (· < ·) ∧ ∀ x, x ∈ ts.take i ++ t :: ts.drop i ↔ x ∈ ts ∨ x = t := by
  have hs2 : (ts.take i ++ ts.drop i).Pairwise (· < ·) := by rwa [List.take_append_drop]
  rw [List.pairwise_append] at hs2
  refine ⟨?_, fun x => ?_⟩
  · rw [List.pairwise_append, List.pairwise_cons]
    refine ⟨hs2.1, ⟨hd, hs2.2.1⟩, fun a ha b hb' => ?_⟩
    have hat : a < t := by
      obtain ⟨j, hj, rfl⟩ := List.getElem_of_mem ha
      have hji : j < i := by have := hj; rw [List.length_take] at this; omega
      have hi1 : i - 1 < ts.length := by omega
      rw [List.getElem_take]
      have hle := hb ts[i - 1] (List.getElem?_eq_getElem hi1) (by omega)
      have h1 : ts[j] ≤ ts[i - 1] := by
        rcases Nat.lt_or_ge j (i - 1) with h | h
        · exact Int.le_of_lt (List.pairwise_iff_getElem.1 hs j (i - 1) (by omega) hi1 h)
        · obtain rfl : j = i - 1 := by omega
          exact Int.le_refl _
      have hne : ts[j] ≠ t := fun e => hn (e ▸ List.getElem_mem (by omega))
      omega
    rcases List.mem_cons.1 hb' with rfl | hb'
    · exact hat
    · exact Int.lt_trans hat (hd b hb')
  · have : x ∈ ts ↔ x ∈ ts.take i ∨ x ∈ ts.drop i := by rw [← List.mem_append, List.take_append_drop]
    rw [List.mem_append, List.mem_cons, this]
    constructor
    · rintro (h | h | h)
      · exact .inl (.inl h)
      · exact .inr h
      · exact .inl (.inr h)
    · rintro ((h | h) | h)
      · exact .inl h
      · exact .inr (.inr h)
      · exact .inr (.inl h)
end Go.Proofs.YtnodmobblamlgaaDoor
/- tiff.ZZEntries over a file that spec.Write makes: the rows that are kept, ascending, with their numbers. -/
namespace Go.Proofs.YtnodmobblamlgaaDoor
open Go.RowKit Go.Maps Go.Proofs.YtnodmobblamlgaaDoor.PFnConfig Go.Proofs.YtnodmobblamlgaaDoorW.PrintWords Go.Proofs.YtnodmobblamlgaaDoorW.PrintLast Go.Proofs.YtnodmobblamlgaaDoorW.PrintMore
set_option linter.unusedVariables false
set_option linter.unusedSimpArgs false

/-- What is listed: the tags that are kept, ascending, with their numbers. -/
def Listed (es : List Ent) (ts : List Int) (vs : List (List Int)) : Prop :=
  ts.Pairwise (· < ·) ∧ (∀ x, x ∈ ts ↔ ∃ e ∈ es, stored e.tag ∧ e.tag = x) ∧ vs.length = ts.length ∧ ∀ (k : Nat) e, e ∈ es → stored e.tag → ts[k]? = some e.tag → vs[k]? = some e.nums
/-- What ZZEntries hands back. -/
def ZOut (W : World) (es : List Ent) (e : Ending) (w' : World) : Prop :=
  ∃ (ts : List Int) (vs : List (List Int)) (A1 : Option Addr) (c1 : Nat) (A2 : Option Addr) (c2 : Nat), e = .returned (.tuple #[.slice A1 ts.length c1, .slice A2 ts.length c2, .nilIface]) ∧ ts.length ≤ c1 ∧ ts.length ≤ c2 ∧ Kd.C (Kd.int .i64) w' A1 ts.length ts ∧ Kd.C (Kd.slice 39 (Kd.int .u64)) w' A2 ts.length vs ∧ Listed es ts vs ∧ Below W.heap.size W w'
theorem i38 : (Tryd.prog.info? 38).map (fun i => (i.zero, i.size, i.bytes)) = some (some (.slice none 0 0), 1, 24) := by kernel_rfl

theorem R_putN {W : World} {base g n cap : Nat} {ok : Nat → Prop} {xs : List Int} (h : Kd.R (Kd.int .i64) 3 W base ok (.slice (some ⟨g, 0, none⟩) n cap) xs) (i : Nat) (x : Int) :
    Kd.R (Kd.int .i64) 3 (W.setCell ⟨g, i, none⟩ (.int .i64 x)) base ok (.slice (some ⟨g, 0, none⟩) n cap) (xs.set i x) ∧ W.grownBy (W.setCell ⟨g, i, none⟩ (.int .i64 x)) (some g) := by
  have h2 := Kd.R_putg (enc := Value.int .i64) (h1 := fun _ => rfl) h (i : Int) x
  rw [Int.toNat_natCast] at h2
  exact h2
theorem R_cellN {W : World} {base g n cap : Nat} {ok : Nat → Prop} {xs : List Int} (h : Kd.R (Kd.int .i64) 3 W base ok (.slice (some ⟨g, 0, none⟩) n cap) xs) (i : Nat) (v : Int) (hv : xs[i]? = some v) :
    W.cell? ⟨g, i, none⟩ = some (.int .i64 v) ∧ W.frozen? ⟨g, i, none⟩ = false := by
  have hi := (List.getElem?_eq_some_iff.1 hv).elim fun h _ => h
  have hn : n = xs.length := (Kd.R_reads' h).1
  obtain ⟨a, b⟩ := Kd.R_celln (enc := Value.int .i64) (h1 := fun _ => rfl) (0 : Int) h (i : Int) (by omega) (by omega)
  rw [Int.toNat_natCast] at a b
  refine ⟨a.trans ?_, b⟩
  rw [rdOf, Int.toNat_natCast, List.getD_eq_getElem?_getD, hv]
  rfl
theorem below_row {b : Nat} {W w w2 : World} {g : Nat} (h : Below b W w) (hg : w.grownBy w2 (some g)) (hb : b ≤ g) (hz : b ≤ w.heap.size) : Below b W w2 :=
  ⟨hg.os.trans h.os, hg.tape.trans h.tape, hg.output.trans h.output, Nat.le_trans h.size hg.size, fun k hk => (hg.block k (by omega) (by simp; omega)).trans (h.block k hk)⟩
/-- The numbers listed so far: those of the map's that are not to come. -/
def TSInv (hs lf : Int → Bool) (ts : List Int) : Prop := ts.Pairwise (· < ·) ∧ (∀ x, x ∈ ts ↔ (K64 x ∧ hs x = true ∧ lf x = false))
theorem TSInv.put {hs lf lf2 : Int → Bool} {ts : List Int} (h : TSInv hs lf ts) (x : Int) (hx : K64 x) (h1 : hs x = true) (h2 : lf x = true) (h3 : ∀ z, lf2 z = (lf z && !(z == x))) (i : Nat) (hl : i ≤ ts.length) (hd : ∀ z ∈ ts.drop i, x < z) (hb : ∀ z, ts[i - 1]? = some z → 0 < i → z ≤ x) :
    TSInv hs lf2 (ts.take i ++ x :: ts.drop i) := by
  have hn : x ∉ ts := fun hm => by have := ((h.2 x).1 hm).2.2; rw [h2] at this; cases this
  obtain ⟨a, b⟩ := put_sorted ts i hl x h.1 hd hb hn
  refine ⟨a, fun z => ?_⟩
  rw [b z, h.2 z, h3 z]
  by_cases e : z = x
  · subst e
    simp [hx, h1, h2]
  · have e2 : (z == x) = false := by simpa using e
    simp [e, e2]

theorem z_end {D : DataW Value} {left : Lit → Bool} {cnt cnt1 fm r g cap n : Nat} {ts : List Int} {x y : Int} {i : Nat} {w1 wq : World} (hX : K64 x ∧ Maps.has D (.int .i64 x) = true ∧ left (.int .i64 x) = true) (hT : TSInv (fun x => Maps.has D (.int .i64 x)) (fun x => left (.int .i64 x)) ts) (hL : ts.length + cnt ≤ Maps.size D) (hlt : cnt1 < cnt)
    (hQ : Kd.R (Kd.int .i64) 3 wq r (fun k => k ≠ r) (.slice (some ⟨g, 0, none⟩) (ts.length + 1) cap) (ts.take i ++ y :: ts.drop i)) (hi : i ≤ ts.length) (hd : ∀ z ∈ ts.drop i, x < z) (hR : wq.ranges Tryd.prog 3 raw fm r n D (fun z => left z && !z.sameKey (.int .i64 x)) cnt1) (hB : Below r w1 wq) (hfr : fm < r) (hrg : r < g)
    (hb : ∀ z, ts[i - 1]? = some z → 0 < i → z ≤ x) :
    Aside0 ((wq.setCell ⟨g, i, none⟩ (.int .i64 x)).ranges Tryd.prog 3 raw fm r n D (fun z => left z && !z.sameKey (.int .i64 x)) cnt1) ∧ Aside0 ((ts.take i ++ x :: ts.drop i).length + cnt1 ≤ Maps.size D) ∧ Aside0 (TSInv (fun x => Maps.has D (.int .i64 x)) (fun z => (fun z => left z && !z.sameKey (.int .i64 x)) (.int .i64 z)) (ts.take i ++ x :: ts.drop i)) ∧
      Aside0 (Kd.R (Kd.int .i64) 3 (wq.setCell ⟨g, i, none⟩ (.int .i64 x)) r (fun k => k ≠ r) (.slice (some ⟨g, 0, none⟩) (ts.length + 1) cap) (ts.take i ++ x :: ts.drop i)) ∧ Aside0 (Below r w1 (wq.setCell ⟨g, i, none⟩ (.int .i64 x))) := by
  obtain ⟨h1, hg⟩ := R_putN hQ i x
  rw [shift_end ts i hi] at h1
  refine ⟨⟨hR.kept hg (by simp; omega) (by simp; omega)⟩, ⟨by rw [shift_length ts i hi]; omega⟩, ⟨hT.put x hX.1 hX.2.1 hX.2.2 (fun z => ?_) i hi hd hb⟩, ⟨h1⟩, ⟨below_row hB hg (by omega) (Nat.le_of_lt hR.lt)⟩⟩
  show (left (.int .i64 z) && !(Lit.int .i64 z).sameKey (.int .i64 x)) = _
  congr 2
  show decide (IntKind.i64 = IntKind.i64 ∧ z = x) = (z == x)
  by_cases h : z = x <;> simp [h]

theorem z_step {D : DataW Value} {left : Lit → Bool} {cnt1 fm r g cap n : Nat} {ts : List Int} {x y zz : Int} {j : Nat} {w1 wq : World} (hsh : (ts.take (j + 1) ++ y :: ts.drop (j + 1)).set (j + 1) ((some zz).getD 0) = ts.take j ++ ((some zz).getD 0) :: ts.drop j) (hz : ts[j]? = some zz)
    (hQ : Kd.R (Kd.int .i64) 3 wq r (fun k => k ≠ r) (.slice (some ⟨g, 0, none⟩) (ts.length + 1) cap) (ts.take (j + 1) ++ y :: ts.drop (j + 1))) (hi : j + 1 ≤ ts.length) (hd : ∀ z ∈ ts.drop (j + 1), x < z) (hR : wq.ranges Tryd.prog 3 raw fm r n D (fun z => left z && !z.sameKey (.int .i64 x)) cnt1) (hB : Below r w1 wq) (hfr : fm < r) (hrg : r < g) (hx : x < zz) :
    Aside0 (Kd.R (Kd.int .i64) 3 (wq.setCell ⟨g, j + 1, none⟩ (.int .i64 zz)) r (fun k => k ≠ r) (.slice (some ⟨g, 0, none⟩) (ts.length + 1) cap) (ts.take j ++ zz :: ts.drop j)) ∧ Aside0 (∀ z ∈ ts.drop j, x < z) ∧ Aside0 ((wq.setCell ⟨g, j + 1, none⟩ (.int .i64 zz)).ranges Tryd.prog 3 raw fm r n D (fun z => left z && !z.sameKey (.int .i64 x)) cnt1) ∧ Aside0 (Below r w1 (wq.setCell ⟨g, j + 1, none⟩ (.int .i64 zz))) := by
  obtain ⟨h1, hg⟩ := R_putN hQ (j + 1) zz
  rw [show (ts.take (j + 1) ++ y :: ts.drop (j + 1)).set (j + 1) zz = ts.take j ++ zz :: ts.drop j from hsh] at h1
  refine ⟨⟨h1⟩, ⟨fun z hm => ?_⟩, ⟨hR.kept hg (by simp; omega) (by simp; omega)⟩, ⟨below_row hB hg (by omega) (Nat.le_of_lt hR.lt)⟩⟩
  have hj : j < ts.length := by omega
  rw [List.drop_eq_getElem_cons hj] at hm
  rcases List.mem_cons.1 hm with rfl | hm
  · have e : ts[j]? = some ts[j] := List.getElem?_eq_getElem hj
    rw [hz] at e
    obtain rfl := Option.some.inj e
    exact hx
  · exact hd z hm
theorem R_newU (w : World) (B : Nat) (xs : List Int) (hB : B ≤ w.heap.size) (hm : xs.length ≤ 9223372036854775807) :
    Kd.R (Kd.int .u64) 39 (w.alloc (.cells (nums .u64 xs).toArray 39)) B (fun _ => True) (.slice (some ⟨w.heap.size, 0, none⟩) xs.length xs.length) xs := by
  refine Kd.R_of_own ?_ (fun _ _ => trivial)
  have h := World.ownsRow_lit (base := B) (e := 39) (size := 1) w (nums .u64 xs).toArray xs.length hB (by simpa [maxLen] using hm) (by simp [nums])
  simpa [nums, encs] using h
theorem z_next {ts : List Int} {vs : List (List Int)} {es : List Ent} {k : Nat} {ee : Ent} (h : vs.length = k ∧ ∀ (j : Nat) e, j < k → e ∈ es → stored e.tag → ts[j]? = some e.tag → vs[j]? = some e.nums) (ht : ts[k]? = some ee.tag) (hasc : es.Pairwise (fun a b => a.tag < b.tag)) (hee : ee ∈ es) :
    (vs ++ [ee.nums]).length = k + 1 ∧ ∀ (j : Nat) e, j < k + 1 → e ∈ es → stored e.tag → ts[j]? = some e.tag → (vs ++ [ee.nums])[j]? = some e.nums := by
  refine ⟨by rw [List.length_append, h.1]; rfl, fun j e hj he hs hte => ?_⟩
  rcases Nat.lt_or_ge j k with hjk | hjk
  · rw [List.getElem?_append_left (by rw [h.1]; exact hjk)]
    exact h.2 j e hjk he hs hte
  · obtain rfl : j = k := by omega
    rw [ht] at hte
    have e1 : ee.tag = e.tag := Option.some.inj hte
    have e2 : ee = e := by
      obtain ⟨a, ha, rfl⟩ := List.getElem_of_mem hee
      obtain ⟨b, hb, rfl⟩ := List.getElem_of_mem he
      rw [List.pairwise_iff_getElem] at hasc
      rcases Nat.lt_trichotomy a b with h' | rfl | h'
      · have := hasc a b ha hb h'
        omega
      · rfl
      · have := hasc b a hb ha h'
        omega
    rw [List.getElem?_append_right (by rw [h.1]; exact Nat.le_refl _), h.1, Nat.sub_self, e2]
    rfl
theorem z_mem {D : DataW Value} {f : Int → Option Value} {left : Lit → Bool} {ts : List Int} {es : List Ent} {w : World} {fm : Nat} (hf : ∀ k, K64 k → Maps.has D (.int .i64 k) = (f k).isSome ∧ ∀ v, f k = some v → ∀ z, D.atKey (.int .i64 k) z = .held v)
    (hf1 : ∀ t, f t ≠ none → ∃ e ∈ es, stored e.tag ∧ e.tag = t) (hf2 : ∀ e ∈ es, stored e.tag → ∃ gb, f e.tag = some (.slice (some ⟨gb, 0, none⟩) e.nums.length e.nums.length) ∧ Kd.C (Kd.int .u64) w (some ⟨gb, 0, none⟩) e.nums.length e.nums ∧ gb ≠ fm ∧ gb ≠ fm + 1)
    (hE : ∀ e ∈ es, EntD e) (hT : TSInv (fun x => Maps.has D (.int .i64 x)) (fun x => left (.int .i64 x)) ts) (hl : ∀ kl, left kl = false) (x : Int) : x ∈ ts ↔ ∃ e ∈ es, stored e.tag ∧ e.tag = x := by
  rw [hT.2 x]
  constructor
  · rintro ⟨hx, hh, _⟩
    refine hf1 x (fun hn => ?_)
    have h1 := (hf x hx).1
    rw [hn] at h1
    have h2 : Maps.has D (.int .i64 x) = true := hh
    rw [h1] at h2
    cases h2
  · rintro ⟨e, he, hs, rfl⟩
    have h1 := (hE e he).ok.tag1
    have h2 := (hE e he).ok.tag2
    have hx : K64 e.tag := K64.mk (by omega) (by omega)
    obtain ⟨gb, h3, _⟩ := hf2 e he hs
    exact ⟨hx, (hf e.tag hx).1.trans (by rw [h3]; rfl), hl _⟩
set_option maxRecDepth 100000 in
set_option maxHeartbeats 8000000 in
theorem ZZ_any {big : Bool} {bs : List Int} {wide high : Nat} {x3 x4 x5 : Int} {ps : List S57} {es : List Ent} (hF : Filed big bs wide high x3 x4 x5 ps es) (W : World) (A : Option Addr) (c : Nat) (hC : Kd.C (Kd.int .u8) W A bs.length bs) (hcap : bs.length ≤ c)
    (l3 : W.cell? ⟨5, 3, none⟩ = some (.int .u32 2)) (l4 : W.cell? ⟨5, 4, none⟩ = some (.int .u32 4)) : Calls Tryd.prog 21 #[.slice A bs.length c] W (ZOut W es) := by
  have hB1 : Below W.heap.size W (W.alloc (rdr A bs.length c 0 (-1))) := (Below.refl W.heap.size W).alloc (Nat.le_refl _) _
  have RN := Aside0.mk (newDec_any hF (W.alloc (rdr A bs.length c 0 (-1))) W.heap.size A c (Go.Deep.blk_alloc_new W _) (Kd.C_below hC hB1) hcap (cell_below hB1 l3) (cell_below hB1 l4))
  have HB1 := Aside0.mk hB1
  have HF := Aside0.mk hF
  clear hB1 hC l3 l4 hF
  have RR := Aside0.mk (newReader_any A bs.length c W)
  go_enter Tryd.func21, Tryd.ntmps21
  go_upto_region 5 with (first | (go_at_call 24; (with_reducible refine RR.out.mono ?_); rintro e w2 ⟨rfl, rfl⟩) | (go_at_call 31; (with_reducible refine RN.out.mono ?_); rintro e w1 ⟨rfl, T, pal, mode, k1, k2, k3, k4⟩; have K1 := Aside0.mk k1; have K2 := Aside0.mk k2; have K4 := Aside0.mk k4; clear k1 k2 k3 k4))
  obtain ⟨fm, hfm⟩ : ∃ fm, fm = (W.alloc (rdr A bs.length c 0 (-1))).heap.size := ⟨_, rfl⟩
  have hfm2 : W.heap.size + 1 = fm := by rw [hfm]; simp
  rw [← hfm] at K2 K4
  rw [hfm2]
  have HFM := Aside0.mk hfm2
  have HBW := Aside0.mk (HB1.out.trans (K1.out.mono HB1.out.size))
  clear K1 HB1 RN RR hfm hfm2
  have c8 := (blk_cell K4.out 8).trans (show _ = some (Value.map (some fm)) from rfl)
  obtain ⟨f, ⟨D, hown, hD, hf⟩, hf1, hf2⟩ := K2.out
  have HFS := Aside0.mk (And.intro hf (And.intro hf1 hf2))
  have HOWN := Aside0.mk hown
  have HD1 := Aside0.mk hD
  clear hf hf1 hf2 hown hD
  have HSZ := Aside0.mk (Nat.le_trans (HOWN.out.size_le) HF.out.len.2)
  go_wp2_with (at_range; refine wpList_range_own _ rfl _ 87 rfl 3 38 law3 Tryd.underlying87 raw fm es.length D rfl HOWN.out ?_; intro w0 hrg0 hg0 hs0; have HRG0 := Aside0.mk hrg0; have HG0 := Aside0.mk hg0; have HS0 := Aside0.mk hs0; clear hrg0 hg0 hs0)
  go_frame
  obtain ⟨r, hr⟩ : ∃ r, r = w1.heap.size := ⟨_, rfl⟩
  rw [← hr] at HRG0 HS0 ⊢
  have HR := Aside0.mk hr
  have HFR : Aside0 (fm < r) := ⟨by rw [hr]; exact Nat.lt_of_succ_lt (blk_lt K4.out)⟩
  have hB0 : Below r w1 w0 := by rw [hr]; exact ⟨HG0.out.os, HG0.out.tape, HG0.out.output, HG0.out.size, fun k hk => HG0.out.block k hk (by simp)⟩
  have HB0 := Aside0.mk hB0
  clear hr hB0 c8
  go_loopg [7, 8, 9] (Maps.size D) (fun kq v7 v8 v9 wr => ∃ (left : Lit → Bool) (cnt : Nat) (ts : List Int), Aside0 (kq = cnt) ∧ Aside0 (wr.ranges Tryd.prog 3 raw fm r es.length D left cnt) ∧ Aside0 (ts.length + cnt ≤ Maps.size D) ∧ Aside0 (TSInv (fun x => Maps.has D (.int .i64 x)) (fun x => left (.int .i64 x)) ts) ∧ Aside0 (Kd.R (Kd.int .i64) 3 wr r (fun k => k ≠ r) v7 ts) ∧ Aside0 (Below r w1 wr))
  case atStart => exact ⟨_, _, [], ⟨rfl⟩, HRG0, ⟨by simp⟩, ⟨by simp, fun x => by simp⟩, ⟨Kd.R_nil _ _ _ _ _⟩, HB0⟩
  case round =>
    obtain ⟨left, cnt, ts, HK, HRG, HLN, HTS, HRT, HBT⟩ := hrel
    clear HRG0 HB0 HG0 HS0
    obtain ⟨A7, c7, rfl, _, _⟩ := Kd.R_reads HRT.out
    go_wp2_with (at_next; refine wpList_next_ranges _ rfl _ rfl 3 law3 raw (Value.int .i64) id (fun key kl hkey => by obtain ⟨x, rfl, _⟩ := Maps.keyOf_int_inv Tryd.underlying3 hkey; exact ⟨x, rfl⟩) (fun v y hv => ⟨v, rfl⟩) fm r es.length D left cnt rfl HRG.out ?_ ?_)
    case refine_1 =>
      intro hc0 hl0
      obtain ⟨e0, he0, ht0, hn0⟩ := HF.out.cfg.w
      have hmem : ∀ x, x ∈ ts ↔ ∃ e ∈ es, stored e.tag ∧ e.tag = x := z_mem HFS.out.1 HFS.out.2.1 HFS.out.2.2 HF.out.ent HTS.out hl0
      have hpos : 0 < ts.length := List.length_pos_of_mem ((hmem 256).2 ⟨e0, he0, by rw [ht0]; simp [stored], ht0⟩)
      have hts : ts.length ≤ 100 := by have := HLN.out; have := HSZ.out; omega
      obtain ⟨gt, ct, ev, hgb, hgl, _⟩ := Kd.R_form HRT.out hpos
      obtain ⟨rfl, rfl⟩ : A7 = some ⟨gt, 0, none⟩ ∧ c7 = ct := by injection ev with a b c; exact ⟨a, c⟩
      have HM := Aside0.mk hmem
      have HBX := Aside0.mk (show Below W.heap.size W wr from HBW.out.trans ((show Below w1.heap.size w1 wr by rw [← HR.out]; exact HBT.out).mono HBW.out.size))
      clear hc0 hl0 e0 he0 ht0 hn0 hmem ev hgb hgl HRG HLN
      obtain ⟨wl, rfl⟩ : ∃ wl : World, wl = wr := ⟨_, rfl⟩
      go_wp2_with (fail)
      go_loopg [10, 12, 65] ts.length (fun kq v10 v12 v65 wq => ∃ (k : Nat) (vs : List (List Int)), v65 = .int .i64 k ∧ Aside0 (kq = ts.length - k ∧ k ≤ ts.length) ∧ Aside0 (Kd.R (Kd.slice 39 (Kd.int .u64)) 38 wq wl.heap.size (fun _ => True) v10 vs) ∧ Aside0 (vs.length = k ∧ ∀ (j : Nat) e, j < k → e ∈ es → stored e.tag → ts[j]? = some e.tag → vs[j]? = some e.nums) ∧ Aside0 (Below wl.heap.size wl wq))
      case atStart => exact ⟨0, [], rfl, ⟨rfl, by omega⟩, ⟨Kd.R_nil _ _ _ _ _⟩, ⟨rfl, fun j e hj => absurd hj (by omega)⟩, ⟨Below.refl _ _⟩⟩
      case round =>
        obtain ⟨k, vs, rfl, HK2, HV, HVS, HBL⟩ := hrel
        have hk1 := HK2.out.2
        obtain ⟨A10, c10, rfl, _, _⟩ := Kd.R_reads HV.out
        have hvl : vs.length = k := HVS.out.1
        rw [hvl] at HV ⊢
        clear hvl
        rcases Nat.lt_or_ge k ts.length with hk | hk
        · obtain ⟨tg, htg⟩ : ∃ t, ts[k]? = some t := ⟨_, List.getElem?_eq_getElem hk⟩
          obtain ⟨ee, hee, hst, het⟩ := (HM.out tg).1 (List.mem_of_getElem? htg)
          obtain rfl := het
          have hck : wr.cell? ⟨gt, k, none⟩ = some (.int .i64 ee.tag) := cell_below HBL.out (R_cellN HRT.out k ee.tag htg).1
          have hok := (HF.out.ent ee hee).ok
          have hn2 := hok.n2
          have hq : K64 ee.tag := K64.mk (by have := hok.tag1; omega) (by have := hok.tag2; omega)
          obtain ⟨gb, h3, h4, _, _⟩ := HFS.out.2.2 ee hee hst
          have hbl : Below w1.heap.size w1 wl := by rw [← HR.out]; exact HBT.out
          have hba : Below w1.heap.size w1 (wr.alloc (.cells #[] 39)) := (hbl.trans (HBL.out.mono hbl.size)).alloc (Nat.le_trans hbl.size HBL.out.size) _
          have c8a := cell_below hba ((blk_cell K4.out 8).trans (show _ = some (Value.map (some fm)) from rfl))
          have hlk := (IMap.below ⟨D, HOWN.out, HD1.out, HFS.out.1⟩ hba).look Tryd.underlying87 (zero38 _) hq
          rw [h3] at hlk
          have hlk2 : (Instr.lookup 87 (.map (some fm)) (.int .i64 ee.tag) false).run Tryd.prog (wr.alloc (.cells #[] 39)) = .ok (.slice (some ⟨gb, 0, none⟩) ee.nums.length ee.nums.length) (wr.alloc (.cells #[] 39)) := hlk
          have PC := Aside0.mk (Kd.C_below h4 hba)
          have ZR : Aside0 (Kd.R (Kd.int .u64) 39 (wr.alloc (.cells #[] 39)) wr.heap.size (fun _ => True) (.slice (some ⟨wr.heap.size, 0, none⟩) 0 0) []) := ⟨R_newU wr wr.heap.size [] (Nat.le_refl _) (by simp)⟩
          have ZB := Aside0.mk ((Below.refl wr.heap.size wr).alloc (Nat.le_refl _) (.cells #[] 39))
          have HOKP : Aside0 (∀ q, wr.heap.size ≤ q → True ∧ some q ≠ (Value.slice A10 k c10).ownBlock) := ⟨fun q hq => ⟨trivial, fun e => by have := Kd.R_lt HV.out q e.symm; omega⟩⟩
          have HEE := Aside0.mk (And.intro hee (And.intro hst htg))
          have hvk : vs.length ≤ 100 := by have := HVS.out.1; omega
          obtain ⟨ln, hln⟩ : ∃ ln, ln = ee.nums.length := ⟨_, rfl⟩
          have HLN2 := Aside0.mk hln
          rw [← hln] at hlk2 PC hn2
          obtain ⟨tg, htg2⟩ : ∃ tg, tg = ee.tag := ⟨_, rfl⟩
          rw [← htg2] at hlk2 hck
          clear hbl hba hlk h3 h4 hq hok hst htg hln htg2 hee
          go_wp2_with (first | ((with_reducible refine gate_builtin (b := .append) (xs := #[.tmp 70, .tmp 76]) rfl ?_); at_builtin; go_loud (refine Kd.R_append_rows (Kd.int .u64) (w0 := wr) wr.heap.size rfl (.tmp 70) (.tmp 76) 38 39 (.int .u64 0) 8 rfl Tryd.underlying38 info39 rfl (by decide) (by omega) _ [] ee.nums _ _ _ (fun _ => True) (fun _ => False) rfl rfl ZR.out PC.out (fun _ _ h => h) (fun _ h => h.elim) (fun k hk => trivial) ZB.out ZB.out.size (by have := HLN2.out; simp; omega) ?_); intro v77 w5 ho hb hg hat; obtain ⟨A77, c77, rfl, _, _⟩ := Kd.R_reads ho; have HM5 : Aside0 ((Kd.slice 39 (Kd.int .u64)).M w5 wl.heap.size (fun q => wr.heap.size ≤ q) ee.nums [.slice A77 ee.nums.length c77]) := ⟨⟨_, rfl, Kd.R_lower (Kd.R_mono (Kd.R_bound ho) (fun k hk => hk.2.1)) HBL.out.size⟩⟩; have HV5 := Aside0.mk (Kd.R_below HV.out hb); have HB5 := Aside0.mk (HBL.out.trans (hb.mono HBL.out.size)); clear ho hb hg hat) | ((with_reducible refine gate_builtin (b := .append) (xs := #[.tmp 69, .tmp 78]) rfl ?_); at_builtin; go_loud (refine Kd.R_append (Kd.slice 39 (Kd.int .u64)) (w0 := wl) wl.heap.size rfl (.tmp 69) (.tmp 78) 34 38 (.slice none 0 0) 24 rfl Tryd.underlying34 i38 rfl (by decide) (by omega) _ vs ee.nums [.slice A77 ee.nums.length c77] (fun _ => True) (fun q => wr.heap.size ≤ q) rfl (by simp [Act.eval]) HM5.out HOKP.out (fun k hk => trivial) HV5.out HB5.out HB5.out.size (by omega) ?_); intro v79 w6 ho hb hg hat; have HO6 := Aside0.mk ho; have HB6 := Aside0.mk hb; clear ho hb hg hat))
          go_roundg (ts.length - (k + 1))
          case measure => have := HK2.out; omega
          case rel => exact ⟨k + 1, vs ++ [ee.nums], by go_num, ⟨rfl, by omega⟩, HO6, ⟨z_next HVS.out HEE.out.2.2 HF.out.asc HEE.out.1⟩, HB6⟩
        · obtain rfl : k = ts.length := by omega
          go_wp2_with (fail)
          refine bodyPost_ret (results_tmp3 rfl _ _ _) rfl ?_
          obtain ⟨h1, h2, h3⟩ := Kd.R_reads' HV.out
          obtain ⟨_, h4, h5⟩ := Kd.R_reads' HRT.out
          refine ⟨ts, vs, some ⟨gt, 0, none⟩, c7, A10, c10, rfl, h4, h2, Kd.C_below h5 HBL.out, by rw [h1]; exact h3, ⟨HTS.out.1, HM.out, h1.symm, fun q e he hs ht => HVS.out.2 q e ?_ he hs ht⟩, HBX.out.trans (HBL.out.mono HBX.out.size)⟩
          exact (List.getElem?_eq_some_iff.1 ht).elim fun h _ => h
    case refine_2 =>
      intro x cc kl ya yb w2 cnt1 hk hlk hv hat hrg1 hlt hg1 hs1 hen
      obtain ⟨x', ex, rfl, hx⟩ := Maps.keyOf_int_inv Tryd.underlying3 hk
      obtain rfl : x = x' := by injection ex
      have hh := Maps.has_true_of_atKey hat
      have hrw : r < wr.heap.size := HRG.out.lt
      have HX := Aside0.mk (And.intro (show K64 x from hx) (And.intro hh hlk))
      have HR1 := Aside0.mk (Kd.R_step HRT.out (fun k hk hlt => hg1.block k hlt (fun e => hk (Option.some.inj e))))
      have HB1 := Aside0.mk (below_row HBT.out hg1 (Nat.le_refl _) (Nat.le_of_lt hrw))
      have HRG1 := Aside0.mk hrg1
      have HLT := Aside0.mk hlt
      have HRW := Aside0.mk (show r < w2.heap.size by omega)
      clear hk hlk hv hat hrg1 hlt hg1 hs1 hh hx ex hrw HRG HRT HBT
      go_wp2_with ((with_reducible refine gate_builtin (b := .append) (xs := #[.tmp 34, .tmp 36]) rfl ?_); at_builtin; go_loud (refine Kd.R_append (Kd.int .i64) (w0 := w1) r rfl (.tmp 34) (.tmp 36) 28 3 (.int .i64 0) 8 rfl Tryd.underlying28 i3 rfl (by decide) (by omega) _ ts x [_] (fun k => k ≠ r) (fun _ => False) rfl (by simp [Act.eval]) rfl (fun _ hk => hk.elim) (fun k hk => by have := HRW.out; omega) HR1.out HB1.out (Nat.le_of_lt HRW.out) (by have := HLN.out; have := HSZ.out; omega) ?_); intro vn w3 ho hb hg hat; have HO := Aside0.mk ho; have HB3 := Aside0.mk hb; have HG3 := Aside0.mk hg; clear ho hb hg hat)
      have HRG3 := Aside0.mk (HRG1.out.kept HG3.out (fun e => by have := Kd.R_base HR1.out fm e.symm; have := HFR.out; omega) (fun e => HR1.out.1 r e.symm rfl))
      obtain ⟨g, cap, rfl, hgb, hgl, _⟩ := Kd.R_form HO.out (by simp)
      have HGR := Aside0.mk (show r < g from Nat.lt_of_le_of_ne hgb (fun e => HO.out.1 g (by simp [Value.ownBlock]) e.symm))
      have HGL := Aside0.mk hgl
      have e1 : (ts ++ [x]).length = ts.length + 1 := by simp
      rw [e1] at HO ⊢
      have HST : Aside0 (Kd.R (Kd.int .i64) 3 w3 r (fun k => k ≠ r) (.slice (some ⟨g, 0, none⟩) (ts.length + 1) cap) (ts.take ts.length ++ x :: ts.drop ts.length)) := ⟨by rw [← shift_start]; exact HO.out⟩
      have HDR : Aside0 (∀ z ∈ ts.drop ts.length, x < z) := ⟨by simp⟩
      clear hgb hgl e1 HO HRG1 HR1 HB1 HG3 hen
      obtain ⟨go, rfl⟩ : ∃ go : Nat, go = gk := ⟨_, rfl⟩
      go_loopg [9] ts.length (fun kq v9 wq => ∃ (i : Nat) (y : Int), v9 = .int .i64 i ∧ Aside0 (kq = i ∧ i ≤ ts.length) ∧ Aside0 (Kd.R (Kd.int .i64) 3 wq r (fun k => k ≠ r) (.slice (some ⟨g, 0, none⟩) (ts.length + 1) cap) (ts.take i ++ y :: ts.drop i)) ∧ Aside0 (∀ z ∈ ts.drop i, x < z) ∧ Aside0 (wq.ranges Tryd.prog 3 raw fm r es.length D (fun z => left z && !z.sameKey (.int .i64 x)) cnt1) ∧ Aside0 (Below r w1 wq))
      case atStart => exact ⟨ts.length, x, rfl, ⟨rfl, Nat.le_refl _⟩, HST, HDR, HRG3, HB3⟩
      case round =>
        clear HST HDR HRG3 HB3
        obtain ⟨i, y, rfl, HI, HQ, HDQ, HRQ, HBQ⟩ := hrel
        have hi1 := HI.out.2
        have hts : ts.length ≤ 100 := by have := HLN.out; have := HSZ.out; omega
        rcases Nat.eq_zero_or_pos i with rfl | hip
        · have hst := R_cellN HQ.out 0 y (by simp)
          have z0 := hst.1
          have f0 := hst.2
          clear hst
          go_wp2_with (fail)
          go_roundg cnt1
          case measure => have := HK.out; have := HLT.out; omega
          case rel => exact ⟨_, cnt1, _, ⟨rfl⟩, z_end HX.out HTS.out HLN.out HLT.out HQ.out (by omega) HDQ.out HRQ.out HBQ.out HFR.out HGR.out (fun z _ h => absurd h (by omega))⟩
        · obtain ⟨j, rfl⟩ : ∃ j, i = j + 1 := ⟨i - 1, by omega⟩
          obtain ⟨zz, hzz⟩ : ∃ z, ts[j]? = some z := ⟨_, List.getElem?_eq_getElem (by omega)⟩
          have hsh := shift_step ts (j + 1) (by omega) hi1 y
          rw [Nat.add_sub_cancel, hzz] at hsh
          have cj := (R_cellN HQ.out j zz hsh.1).1
          have hst := R_cellN HQ.out (j + 1) y (by rw [List.getElem?_append_right (by rw [List.length_take]; omega), List.length_take, Nat.min_eq_left hi1, Nat.sub_self]; rfl)
          have z0 := hst.1
          have f0 := hst.2
          have HSH := Aside0.mk hsh.2
          have HZZ := Aside0.mk hzz
          clear hst hsh hzz
          rw [show ((j + 1 : Nat) : Int) = (j : Int) + 1 from rfl]
          have hjl : (j : Int) < (ts.length : Int) := by omega
          have hj0 : (j : Int) + 1 < (ts.length : Int) + 1 := by omega
          by_cases hzx : x < zz
          · go_wp2_with (fail)
            go_roundg j
            case measure => have := HI.out; omega
            case rel => exact ⟨j, zz, rfl, ⟨rfl, by omega⟩, z_step HSH.out HZZ.out HQ.out hi1 HDQ.out HRQ.out HBQ.out HFR.out HGR.out hzx⟩
          · go_wp2_with (fail)
            go_roundg cnt1
            case measure => have := HK.out; have := HLT.out; omega
            case rel => exact ⟨_, cnt1, _, ⟨rfl⟩, z_end HX.out HTS.out HLN.out HLT.out HQ.out hi1 HDQ.out HRQ.out HBQ.out HFR.out HGR.out (fun z hz _ => by
              rw [Nat.add_sub_cancel, HZZ.out] at hz
              obtain rfl := Option.some.inj hz
              omega)⟩
end Go.Proofs.YtnodmobblamlgaaDoor
/- impl.Entries over a file that spec.Write makes. -/
namespace Go.Proofs.YtnodmobblamlgaaDoor
open Go.RowKit Go.Proofs.YtnodmobblamlgaaDoor.PFnConfig Go.Proofs.YtnodmobblamlgaaDoorW.PrintWords Go.Proofs.YtnodmobblamlgaaDoorW.PrintLast Go.Proofs.YtnodmobblamlgaaDoorW.PrintMore
set_option linter.unusedVariables false
set_option linter.unusedSimpArgs false

/-- What impl.Entries hands back. -/
def EOut (W : World) (es : List Ent) (e : Ending) (w' : World) : Prop :=
  ∃ (ts : List Int) (vs : List (List Int)) (A1 : Option Addr) (c1 : Nat) (A2 : Option Addr) (c2 : Nat), e = .returned (.tuple #[.slice A1 ts.length c1, .slice A2 ts.length c2, .bool true]) ∧ ts.length ≤ c1 ∧ ts.length ≤ c2 ∧ Kd.C (Kd.int .i64) w' A1 ts.length ts ∧ Kd.C (Kd.slice 39 (Kd.int .u64)) w' A2 ts.length vs ∧ Listed es ts vs ∧ Below W.heap.size W w'
set_option maxRecDepth 100000 in
set_option maxHeartbeats 3200000 in
theorem Entries_any {big : Bool} {bs : List Int} {wide high : Nat} {x3 x4 x5 : Int} {ps : List S57} {es : List Ent} (hF : Filed big bs wide high x3 x4 x5 ps es) (W : World) (A : Option Addr) (c : Nat) (hC : Kd.C (Kd.int .u8) W A bs.length bs) (hcap : bs.length ≤ c)
    (l3 : W.cell? ⟨5, 3, none⟩ = some (.int .u32 2)) (l4 : W.cell? ⟨5, 4, none⟩ = some (.int .u32 4)) : Calls Tryd.prog 10 #[.slice A bs.length c] W (EOut W es) := by
  obtain ⟨ad, rfl⟩ := C_some hC hF.pos
  have hsz := hF.size
  have RC := Aside0.mk (clone_some ad c bs W hC hcap (by omega))
  have HF := Aside0.mk hF
  have HL3 := Aside0.mk l3
  have HL4 := Aside0.mk l4
  clear hC l3 l4 hF
  go_enter Tryd.func10, Tryd.ntmps10
  go_wp2_with (first | (go_at_call 22; (with_reducible refine RC.out.mono ?_); rintro e w1 ⟨v, rfl, k1, k2⟩; obtain ⟨A1, c1, rfl, h1, h2⟩ := Kd.R_reads k1; have KB := Aside0.mk k2; have RZ := Aside0.mk (ZZ_any HF.out w1 A1 c1 h2 h1 (cell_below k2 HL3.out) (cell_below k2 HL4.out)); clear k1 k2 h1 h2) | (go_at_call 21; (with_reducible refine RZ.out.mono ?_); rintro e w2 ⟨ts, vs, A1, c1, A2, c2, rfl, k1, k2, k3, k4, k5, k6⟩; have KK := Aside0.mk (And.intro k1 (And.intro k2 (And.intro k3 (And.intro k4 (And.intro k5 k6))))); clear k1 k2 k3 k4 k5 k6))
  refine bodyPost_ret (results_tmp3 rfl _ _ _) rfl ?_
  obtain ⟨k1, k2, k3, k4, k5, k6⟩ := KK.out
  exact ⟨ts, vs, A1, c1, A2, c2, rfl, k1, k2, k3, k4, k5, KB.out.trans (k6.mono KB.out.size)⟩
end Go.Proofs.YtnodmobblamlgaaDoor
