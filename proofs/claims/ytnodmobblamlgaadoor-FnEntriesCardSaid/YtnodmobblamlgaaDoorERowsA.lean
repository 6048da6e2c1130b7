/- spec.rows over a file of rows: a map from each tag to its numbers. -/
import Derived.Test.YtnodmobblamlgaaDoorEMapI
import Derived.Test.YtnodmobblamlgaaDoorEReads
import Derived.Test.YtnodmobblamlgaaDoorEWriteH
namespace Go.Proofs.YtnodmobblamlgaaDoor
open Go.RowKit Go.Maps Go.Proofs.YtnodmobblamlgaaDoor.PFnConfig Go.Proofs.YtnodmobblamlgaaDoorW.PrintWords Go.Proofs.YtnodmobblamlgaaDoorW.PrintLast Go.Proofs.YtnodmobblamlgaaDoorW.PrintMore
set_option linter.unusedVariables false
set_option linter.unusedSimpArgs false

/-- Block b is a map from the tags of rows to slices of their numbers. -/
def MapRows (w : World) (base b n : Nat) (es : List Ent) : Prop :=
  ∃ f, IMap w b n f ∧ (∀ t, f t ≠ none → ∃ e ∈ es, e.tag = t) ∧ ∀ e ∈ es, ∃ v, f e.tag = some v ∧ Kd.R (Kd.int .i64) 3 w base (fun k => k ≠ b) v e.nums
theorem tags_ne (es : List Ent) (h : es.Pairwise (fun a b => a.tag < b.tag)) (k : Nat) (x : Ent) (hx : es[k]? = some x) (e : Ent) (he : e ∈ es.take k) : e.tag < x.tag := by
  obtain ⟨hk, hx'⟩ := List.getElem?_eq_some_iff.1 hx
  obtain ⟨i, hi, rfl⟩ := List.getElem_of_mem he
  rw [List.length_take] at hi
  rw [List.getElem_take, ← hx']
  exact List.pairwise_iff_getElem.1 h i k (by omega) hk (by omega)
theorem tags_next (es : List Ent) (h : es.Pairwise (fun a b => a.tag < b.tag)) (k : Nat) (x : Ent) (hx : es[k]? = some x) (j : Nat) (e : Ent) (hj : k + 1 ≤ j) (he : es[j]? = some e) : x.tag < e.tag := by
  obtain ⟨hk, hx'⟩ := List.getElem?_eq_some_iff.1 hx
  obtain ⟨hj', he'⟩ := List.getElem?_eq_some_iff.1 he
  rw [← hx', ← he']
  exact List.pairwise_iff_getElem.1 h k j hk hj' (by omega)
theorem maprows_next {w1 w : World} {B n : Nat} {g g1 : Int → Option Value} {cur : Value} (es : List Ent) (k : Nat) (x : Ent) (hx : es[k]? = some x) (h : es.Pairwise (fun a b => a.tag < b.tag)) (hB : B ≤ w1.heap.size)
    (hg2 : ∀ t, g t ≠ none → ∃ e ∈ es.take k, e.tag = t) (hg3 : ∀ e ∈ es.take k, ∃ v, g e.tag = some v ∧ Kd.R (Kd.int .i64) 3 w1 B (fun q => q ≠ B) v e.nums)
    (hI : IMap w B n g1) (h1 : ∀ t, t ≠ x.tag → g1 t = g t) (h2 : g1 x.tag = some cur) (hR : Kd.R (Kd.int .i64) 3 w w1.heap.size (fun q => q ≠ B) cur x.nums) (hT : Turn (fun q => q = B) w1 w) : MapRows w B B n (es.take (k + 1)) := by
  obtain ⟨hk, hx'⟩ := List.getElem?_eq_some_iff.1 hx
  rw [List.take_succ_eq_append_getElem hk, hx']
  refine ⟨g1, hI, fun t ht => ?_, fun e he => ?_⟩
  · by_cases e1 : t = x.tag
    · exact ⟨x, by simp, e1.symm⟩
    · rw [h1 t e1] at ht
      obtain ⟨e, he, het⟩ := hg2 t ht
      exact ⟨e, List.mem_append_left _ he, het⟩
  · rcases List.mem_append.1 he with he | he
    · obtain ⟨v, a, b⟩ := hg3 e he
      have hlt := tags_ne es h k x hx e he
      exact ⟨v, by rw [h1 e.tag (by omega)]; exact a, hT.R b (fun k hk => hk)⟩
    · obtain rfl := List.mem_singleton.1 he
      exact ⟨cur, h2, Kd.R_lower hR hB⟩
theorem read_lit2 (big : Bool) (A : Option Addr) (N c : Nat) (bs : List Int) (q : Nat) (p : Int) (hp : p = q) (v : Int) (W : World) (hp1 : 1 ≤ q) (hv : 0 ≤ v) (hv2 : v < 65536) (hN : N ≤ 2000000000) (hat : AtN big 2 bs q v) (hC : Kd.C (Kd.int .u8) W A N bs) :
    ∀ w, Below W.heap.size W w → Calls Tryd.prog 30 #[.bool big, .int .i64 2, .slice A N c, .int .i64 p] w (fun e w' => e = .returned (.int .i64 v) ∧ w = w') := by
  subst hp
  exact fun w hb => read_any big 2 (.inl rfl) A N c bs q v w hp1 hv (fun _ => hv2) (by omega) (Kd.C_below hC hb) hN hat
theorem read_lit4 (big : Bool) (A : Option Addr) (N c : Nat) (bs : List Int) (q : Nat) (p : Int) (hp : p = q) (v : Int) (W : World) (hp1 : 1 ≤ q) (hv : 0 ≤ v) (hv4 : v < 4294967296) (hN : N ≤ 2000000000) (hat : AtN big 4 bs q v) (hC : Kd.C (Kd.int .u8) W A N bs) :
    ∀ w, Below W.heap.size W w → Calls Tryd.prog 30 #[.bool big, .int .i64 4, .slice A N c, .int .i64 p] w (fun e w' => e = .returned (.int .i64 v) ∧ w = w') := by
  subst hp
  exact fun w hb => read_any big 4 (.inr rfl) A N c bs q v w hp1 hv (fun h => by omega) hv4 (Kd.C_below hC hb) hN hat

set_option maxRecDepth 100000 in
set_option maxHeartbeats 20000000 in
theorem rows_any (big : Bool) (A : Option Addr) (c dir : Nat) (bs : List Int) (es : List Ent) (W : World) (hD : Dir big bs dir es) (hok : ∀ e ∈ es, EntOk e) (hasc : es.Pairwise (fun a b => a.tag < b.tag)) (hn16 : es.length ≤ 16) (hl : bs.length ≤ 13000000) (hlc : bs.length ≤ c) (hC : Kd.C (Kd.int .u8) W A bs.length bs) :
    Calls Tryd.prog 20 #[.bool big, .slice A bs.length c] W (fun e w' => e = .returned (.tuple #[.map (some W.heap.size), .bool true]) ∧ MapRows w' W.heap.size W.heap.size 100000 es ∧ Below W.heap.size W w') := by
  have HD := Aside0.mk hD
  have HOK := Aside0.mk hok
  have HASC := Aside0.mk hasc
  have HC := Aside0.mk hC
  have hfit := hD.fit
  have hd8 := hD.dir8
  have hN8 : 8 ≤ bs.length := by omega
  obtain ⟨N, hN⟩ : ∃ N, N = bs.length := ⟨_, rfl⟩
  rw [← hN] at HC hl hfit hN8 hlc ⊢
  have HNB := Aside0.mk hN
  have R0 := Aside0.mk (read_lit4 big A N c bs 4 4 rfl dir W (by omega) (by omega) (by omega) (by omega) hD.at4 HC.out)
  have R1 := Aside0.mk (read_lit2 big A N c bs dir (dir : Int) rfl (es.length : Int) W (by omega) (by omega) (by omega) (by omega) hD.cnt HC.out)
  clear hD hok hasc hC hN
  have HB0 := Aside0.mk (Below.refl W.heap.size W)
  have HB1 := Aside0.mk ((Below.refl W.heap.size W).alloc (Nat.le_refl _) (.map #[] 0))
  have HM0 := Aside0.mk (IMap.made W)
  have hmm := @run_makeMap Tryd.prog
  go_enter Tryd.func20, Tryd.ntmps20
  go_upto_region 12 with (first | (go_at_call 30; (with_reducible refine (R0.out _ HB1.out).mono ?_); rintro e w' ⟨rfl, rfl⟩) | (go_at_call 30; (with_reducible refine (R1.out _ HB1.out).mono ?_); rintro e w' ⟨rfl, rfl⟩))
  clear hmm HB0 HB1
  go_loopg [9, 47] es.length (fun kq v9 v47 wr => ∃ (k : Nat) (last : Int), v9 = .int .i64 last ∧ v47 = .int .i64 k ∧ Aside0 (kq = es.length - k ∧ k ≤ es.length) ∧ Aside0 (0 ≤ last ∧ last ≤ 400 ∧ ∀ j e, k ≤ j → es[j]? = some e → last < e.tag) ∧ Aside0 (MapRows wr W.heap.size W.heap.size (1000 * k) (es.take k)) ∧ Aside0 (Below W.heap.size W wr))
  case atStart => exact ⟨0, 0, rfl, rfl, ⟨rfl, by omega⟩, ⟨by omega, by omega, fun j e _ he => by have := (HOK.out e (List.mem_of_getElem? he)).tag1; omega⟩, ⟨⟨_, HM0.out, fun t h => absurd rfl h, fun e he => by simp at he⟩⟩, ⟨(Below.refl W.heap.size W).alloc (Nat.le_refl _) (.map #[] 0)⟩⟩
  case round =>
    clear HM0
    obtain ⟨k, last, rfl, rfl, HK, HLAST, HM, HB⟩ := hrel
    have hk1 := HK.out.2
    have hla1 := HLAST.out.1
    have hla2 := HLAST.out.2.1
    rcases Nat.lt_or_ge k es.length with hk | hk
    ·
      -- <ROUND
      obtain ⟨ee, hee⟩ : ∃ e, es[k]? = some e := ⟨_, List.getElem?_eq_getElem hk⟩
      have hoke := HOK.out ee (List.mem_of_getElem? hee)
      have hlt := HLAST.out.2.2 k ee (Nat.le_refl _) hee
      obtain ⟨hT, hK, hNm, f, hf8, hf1, hf2, hf3, hf4⟩ := HD.out.row k ee hee
      have HF8 := Aside0.mk hf8
      clear hf8
      have HEE := Aside0.mk hee
      clear hee
      obtain ⟨tag, kind, nums⟩ := ee
      have ht1 := hoke.tag1
      have ht2 := hoke.tag2
      have hl1 := hoke.n1
      have hl2 := hoke.n2
      have hvals := hoke.vals
      have hkind := hoke.kind
      clear hoke
      dsimp only at hT hK hNm hf1 hf2 hf3 hf4 ht1 ht2 hl1 hl2 hvals hkind hlt
      rcases hkind with rfl | rfl
      · have hwd : (⟨tag, 3, nums⟩ : Ent).wd = 2 := rfl
        rw [hwd] at hf1 hf2 hf3 hf4
        clear hwd
        -- <R3
        have RT := Aside0.mk (read_lit2 big A N c bs (dir + 2 + 12 * k) ((dir : Int) + 2 + 12 * (k : Int)) (by omega) tag W (by omega) (by omega) (by omega) (by omega) hT HC.out)
        have RK := Aside0.mk (read_lit2 big A N c bs (dir + 2 + 12 * k + 2) ((dir : Int) + 2 + 12 * (k : Int) + 2) (by omega) 3 W (by omega) (by omega) (by omega) (by omega) hK HC.out)
        have RN := Aside0.mk (read_lit4 big A N c bs (dir + 2 + 12 * k + 4) ((dir : Int) + 2 + 12 * (k : Int) + 4) (by omega) (nums.length : Int) W (by omega) (by omega) (by omega) (by omega) hNm HC.out)
        have HF := Aside0.mk (And.intro hf1 (And.intro hf2 hf4))
        have hf3' : f + 2 * nums.length ≤ N := by have := HNB.out; omega
        clear hT hK hNm hf1 hf2 hf4 hf3
        have HTAG := Aside0.mk (show -9223372036854775808 ≤ tag ∧ tag ≤ 9223372036854775807 by omega)
        have HV := Aside0.mk hvals
        clear hvals
        have HB1 := Aside0.mk (HB.out.alloc HB.out.size (.cells #[.int .i64 0, .int .i64 1, .int .i64 1, .int .i64 2, .int .i64 4, .int .i64 8] 3))
        have HM1 : Aside0 (MapRows (wr.alloc (.cells #[.int .i64 0, .int .i64 1, .int .i64 1, .int .i64 2, .int .i64 4, .int .i64 8] 3)) W.heap.size W.heap.size (1000 * k) (es.take k)) := ⟨by obtain ⟨f, h1, h2, h3⟩ := HM.out; exact ⟨f, h1.alloc _, h2, fun e he => by obtain ⟨v, a, b⟩ := h3 e he; exact ⟨v, a, Kd.R_alloc b _⟩⟩⟩
        go_upto_if 94 with (first | (go_at_call 30; (with_reducible refine (RT.out _ HB.out).mono ?_); rintro e w' ⟨rfl, rfl⟩) | (go_at_call 30; (with_reducible refine (RK.out _ HB.out).mono ?_); rintro e w' ⟨rfl, rfl⟩) | (go_at_call 30; (with_reducible refine (RN.out _ HB.out).mono ?_); rintro e w' ⟨rfl, rfl⟩))
        have HB1o := HB1
        generalize wr.alloc (.cells #[.int .i64 0, .int .i64 1, .int .i64 1, .int .i64 2, .int .i64 4, .int .i64 8] 3) = w1 at HB1 HB1o HM1 ⊢
        clear HB1o RT RK RN HM HB
        obtain ⟨b94, h94⟩ : ∃ b : Bool, b = decide ((4 : Int) < 2 * (nums.length : Int)) := ⟨_, rfl⟩
        rw [← h94]
        have T94 := Aside0.mk h94
        clear h94
        go_cut [16] from 95 to 99 (fun v16 wx => v16 = .int .i64 (f : Int) ∧ w1 = wx)
        case first =>
          cases b94
          · have hf1 := HF.out.1 (by have h := T94.out; have h2 := of_decide_eq_false h.symm; omega)
            go_wp2_with (fail)
            go_meet
            exact ⟨congrArg (Value.int .i64) (by omega), rfl⟩
          · have h4 := HF.out.2.1 (by have h := T94.out; have h2 := of_decide_eq_true h.symm; omega)
            have RF := Aside0.mk (read_lit4 big A N c bs (dir + 2 + 12 * k + 8) ((dir : Int) + 2 + 12 * (k : Int) + 8) (by omega) (f : Int) W (by omega) (by omega) (by omega) (by omega) h4 HC.out)
            clear h4
            go_wp2_with (go_at_call 30; (with_reducible refine (RF.out _ HB1.out).mono ?_); rintro e w' ⟨rfl, rfl⟩)
            go_meet
            exact ⟨rfl, rfl⟩
        case rest =>
        obtain ⟨rfl, rfl⟩ := hcut
        clear T94
        obtain ⟨g, hI, hg2, hg3⟩ := HM1.out
        have HI := Aside0.mk hI
        have HG := Aside0.mk (And.intro hg2 hg3)
        have hnone : g tag = none := by
          cases hgt : g tag with
          | none => rfl
          | some v =>
            obtain ⟨e, he, het⟩ := hg2 tag (by rw [hgt]; simp)
            exact absurd (tags_ne es HASC.out k _ HEE.out e he) (by rw [het]; exact Int.lt_irrefl _)
        have HNONE := Aside0.mk hnone
        clear hI hg2 hg3 hnone HM1
        go_upto_region 26 with (fail)
        obtain ⟨ga, rfl⟩ : ∃ ga : Nat, ga = gk := ⟨_, rfl⟩
        go_loopg [110] nums.length (fun kq v110 wr => ∃ (j : Nat) (cur : Value) (g1 : Int → Option Value), v110 = .int .i64 j ∧ Aside0 (kq = nums.length - j ∧ j ≤ nums.length) ∧ Aside0 (IMap wr W.heap.size (1000 * k + j) g1) ∧ Aside0 ((g1 tag).getD (.slice none 0 0) = cur ∧ (∀ t, t ≠ tag → g1 t = g t) ∧ (0 < j → g1 tag = some cur)) ∧ Aside0 (Kd.R (Kd.int .i64) 3 wr w1.heap.size (fun q => q ≠ W.heap.size) cur (nums.take j)) ∧ Aside0 (Turn (fun q => q = W.heap.size) w1 wr))
        case atStart => exact ⟨0, .slice none 0 0, g, rfl, ⟨rfl, by omega⟩, HI, ⟨by rw [HNONE.out]; rfl, fun _ _ => rfl, fun h => by omega⟩, ⟨Kd.R_nil _ _ _ _ _⟩, ⟨Turn.refl _ _⟩⟩
        case round =>
          clear HI
          obtain ⟨j, cur, g1, rfl, HJ, HI, HC1, HR, HTn⟩ := hrel
          have hj1 := HJ.out.2
          rcases Nat.lt_or_ge j nums.length with hj | hj
          ·
            -- <I3
            obtain ⟨vj, hvj⟩ : ∃ v, nums[j]? = some v := ⟨_, List.getElem?_eq_getElem hj⟩
            have hvb := HV.out vj (List.mem_of_getElem? hvj)
            have hv0 := hvb.1
            have hv1 := hvb.2.1 trivial
            have hf8 := HF8.out
            have RV := Aside0.mk (read_lit2 big A N c bs (f + 2 * j) ((f : Int) + 2 * (j : Int)) (by omega) vj W (by omega) (by omega) (by omega) (by omega) (HF.out.2.2 j vj hvj) HC.out)
            have HVJ := Aside0.mk hvj
            clear hvj hvb hv0 hv1 hf8
            have hmin := (show (min (2 : Int) 4) = 2 from by decide)
            go_upto_region 28 with (fail)
            have hb1 : IMap wr.drew W.heap.size (1000 * k + j) g1 := HI.out.drew
            have HR1 : Aside0 (Kd.R (Kd.int .i64) 3 wr.drew w1.heap.size (fun q => q ≠ W.heap.size) cur (nums.take j)) := ⟨Kd.R_step HR.out (fun _ _ _ => rfl)⟩
            have HT1 : Aside0 (Turn (fun q => q = W.heap.size) w1 wr.drew) := ⟨HTn.out.drew⟩
            refine start_ (n := 18) (S := fun w' => IMap w' W.heap.size (1000 * k + j) g1) (ds := [17]) #[false, false, false, false, false, false, false, false, false, false, false, false, false, false, false, false, false, false] (by kernel_rfl) rfl rfl hb1 (fun hh0 => ?_)
            generalize wr.drew = wd at HR1 HT1 hh0 ⊢
            refine pure_ (i := 0) (N := some 113) (v := ?_) (a' := ?_) #[true, false, false, false, false, false, false, false, false, false, false, false, false, false, false, false, false, false] rfl rfl (by kernel_rfl) (fun _ _ _ h => h) (Or.inl ⟨by rfl, ?_⟩) ?_ ?_
            rotate_left
            · intro w'
              go_simp
              with_reducible rfl
            rotate_left
            · simp only [Act.put, List.setIfInBounds_toArray, List.set_cons_zero, List.set_cons_succ, i64_w, i32_w]
              rfl
            refine pure_ (i := 1) (N := some 114) (v := ?_) (a' := ?_) #[true, true, false, false, false, false, false, false, false, false, false, false, false, false, false, false, false, false] rfl rfl (by kernel_rfl) (fun _ _ _ h => h) (Or.inl ⟨by rfl, ?_⟩) ?_ ?_
            rotate_left
            · intro w'
              go_simp
              with_reducible rfl
            rotate_left
            · simp only [Act.put, List.setIfInBounds_toArray, List.set_cons_zero, List.set_cons_succ, i64_w, i32_w]
              rfl
            refine pure_ (i := 2) (N := some 115) (v := ?_) (a' := ?_) #[true, true, true, false, false, false, false, false, false, false, false, false, false, false, false, false, false, false] rfl rfl (by kernel_rfl) (fun _ _ _ h => h) (Or.inl ⟨by rfl, ?_⟩) ?_ ?_
            rotate_left
            · intro w'
              go_simp
              with_reducible rfl
            rotate_left
            · simp only [Act.put, List.setIfInBounds_toArray, List.set_cons_zero, List.set_cons_succ, i64_w, i32_w]
              rfl
            refine pure_ (i := 3) (N := some 116) (v := ?_) (a' := ?_) #[true, true, true, true, false, false, false, false, false, false, false, false, false, false, false, false, false, false] rfl rfl (by kernel_rfl) (fun _ _ _ h => h) (Or.inl ⟨by rfl, ?_⟩) ?_ ?_
            rotate_left
            · intro w'
              go_simp
              with_reducible rfl
            rotate_left
            · simp only [Act.put, List.setIfInBounds_toArray, List.set_cons_zero, List.set_cons_succ, i64_w, i32_w]
              rfl
            refine take_ (i := 4) (N := some 117) (v := cur) (a' := ?_) #[true, true, true, true, true, false, false, false, false, false, false, false, false, false, false, false, false, false] rfl rfl (by kernel_rfl) (fun _ _ _ h => h) (Or.inl ⟨by rfl, ?_⟩) hh0 ?_ ?_
            · rintro w' s2
              have hl := IMap.look s2 Tryd.underlying32 (zero28 w') (K64.mk HTAG.out.1 HTAG.out.2)
              rw [HC1.out.1] at hl
              go_simp
            rotate_left
            · simp only [Act.put, List.setIfInBounds_toArray, List.set_cons_zero, List.set_cons_succ, i64_w, i32_w]
              rfl
            refine pure_ (i := 5) (N := some 118) (v := ?_) (a' := ?_) #[true, true, true, true, true, true, false, false, false, false, false, false, false, false, false, false, false, false] rfl rfl (by kernel_rfl) (fun _ _ _ h => h) (Or.inl ⟨by rfl, ?_⟩) ?_ ?_
            rotate_left
            · intro w'
              go_simp
              with_reducible rfl
            rotate_left
            · simp only [Act.put, List.setIfInBounds_toArray, List.set_cons_zero, List.set_cons_succ, i64_w, i32_w]
              rfl
            refine pure_ (i := 6) (N := some 119) (v := ?_) (a' := ?_) #[true, true, true, true, true, true, true, false, false, false, false, false, false, false, false, false, false, false] rfl rfl (by kernel_rfl) (fun _ _ _ h => h) (Or.inl ⟨by rfl, ?_⟩) ?_ ?_
            rotate_left
            · intro w'
              go_simp
              with_reducible rfl
            rotate_left
            · simp only [Act.put, List.setIfInBounds_toArray, List.set_cons_zero, List.set_cons_succ, i64_w, i32_w]
              rfl
            refine pure_ (i := 7) (N := some 120) (v := ?_) (a' := ?_) #[true, true, true, true, true, true, true, true, false, false, false, false, false, false, false, false, false, false] rfl rfl (by kernel_rfl) (fun _ _ _ h => h) (Or.inl ⟨by rfl, ?_⟩) ?_ ?_
            rotate_left
            · intro w'
              go_simp
              with_reducible rfl
            rotate_left
            · simp only [Act.put, List.setIfInBounds_toArray, List.set_cons_zero, List.set_cons_succ, i64_w, i32_w]
              rfl
            refine pure_ (i := 8) (N := some 121) (v := ?_) (a' := ?_) #[true, true, true, true, true, true, true, true, true, false, false, false, false, false, false, false, false, false] rfl rfl (by kernel_rfl) (fun _ _ _ h => h) (Or.inl ⟨by rfl, ?_⟩) ?_ ?_
            rotate_left
            · intro w'
              go_simp
              with_reducible rfl
            rotate_left
            · simp only [Act.put, List.setIfInBounds_toArray, List.set_cons_zero, List.set_cons_succ, i64_w, i32_w]
              rfl
            refine pure_ (i := 9) (N := some 122) (v := ?_) (a' := ?_) #[true, true, true, true, true, true, true, true, true, true, false, false, false, false, false, false, false, false] rfl rfl (by kernel_rfl) (fun _ _ _ h => h) (Or.inl ⟨by rfl, ?_⟩) ?_ ?_
            rotate_left
            · intro w'
              go_simp
              with_reducible rfl
            rotate_left
            · simp only [Act.put, List.setIfInBounds_toArray, List.set_cons_zero, List.set_cons_succ, i64_w, i32_w]
              rfl
            refine pure_ (i := 10) (N := some 123) (v := ?_) (a' := ?_) #[true, true, true, true, true, true, true, true, true, true, true, false, false, false, false, false, false, false] rfl rfl (by kernel_rfl) (fun _ _ _ h => h) (Or.inl ⟨by rfl, ?_⟩) ?_ ?_
            rotate_left
            · intro w'
              go_simp
              with_reducible rfl
            rotate_left
            · simp only [Act.put, List.setIfInBounds_toArray, List.set_cons_zero, List.set_cons_succ, i64_w, i32_w]
              rfl
            refine pure_ (i := 11) (N := some 124) (v := ?_) (a' := ?_) #[true, true, true, true, true, true, true, true, true, true, true, true, false, false, false, false, false, false] rfl rfl (by kernel_rfl) (fun _ _ _ h => h) (Or.inl ⟨by rfl, ?_⟩) ?_ ?_
            rotate_left
            · intro w'
              go_simp
              with_reducible rfl
            rotate_left
            · simp only [Act.put, List.setIfInBounds_toArray, List.set_cons_zero, List.set_cons_succ, i64_w, i32_w]
              rfl
            refine pure_ (i := 12) (N := some 125) (v := ?_) (a' := ?_) #[true, true, true, true, true, true, true, true, true, true, true, true, true, false, false, false, false, false] rfl rfl (by kernel_rfl) (fun _ _ _ h => h) (Or.inl ⟨by rfl, ?_⟩) ?_ ?_
            rotate_left
            · intro w'
              go_simp
              with_reducible rfl
            rotate_left
            · simp only [Act.put, List.setIfInBounds_toArray, List.set_cons_zero, List.set_cons_succ, i64_w, i32_w]
              rfl
            refine pure_ (i := 13) (N := some 126) (v := ?_) (a' := ?_) #[true, true, true, true, true, true, true, true, true, true, true, true, true, true, false, false, false, false] rfl rfl (by kernel_rfl) (fun _ _ _ h => h) (Or.inl ⟨by rfl, ?_⟩) ?_ ?_
            rotate_left
            · intro w'
              go_simp
              with_reducible rfl
            rotate_left
            · simp only [Act.put, List.setIfInBounds_toArray, List.set_cons_zero, List.set_cons_succ, i64_w, i32_w]
              rfl
            obtain ⟨x1, x2⟩ : wrap64 (2 * (j : Int)) = 2 * (j : Int) ∧ wrap64 ((f : Int) + 2 * (j : Int)) = (f : Int) + 2 * (j : Int) := ⟨w64n (by omega) (by omega), w64n (by omega) (by omega)⟩
            rw [x1, x2]
            clear x1 x2
            refine one_ (i := 14) (N := some 127) #[true, true, true, true, true, true, true, true, true, true, true, true, true, true, true, false, false, false] rfl rfl (by kernel_rfl) (by decide) (fun K hK => ?_)
            refine goes_ Tryd.func30 (by kernel_rfl) rfl #[.bool big, .int .i64 2, .slice A N c, .int .i64 ((f : Int) + 2 * (j : Int))] (by rfl) rfl rfl (by simp [Act.eval]) ?_
            refine (RV.out _ (Turn.below HB1.out HB1.out.size HT1.out (fun q hq => by omega))).mono ?_
            rintro e w' ⟨rfl, rfl⟩
            refine ⟨_, rfl, ?_⟩
            refine hK.out _ _ hh0 (fun hh1 => ?_)
            clear hK K hh1
            refine norm_ (a' := ?_) ?_ ?_
            rotate_left
            · show Act.put _ (some 127) _ = _
              simp only [Act.put, List.setIfInBounds_toArray, List.set_cons_zero, List.set_cons_succ, i64_w, i32_w]
              rfl
            refine one_ (i := 15) (N := some 128) #[true, true, true, true, true, true, true, true, true, true, true, true, true, true, true, true, false, false] rfl rfl (by kernel_rfl) (by decide) (fun K hK => ?_)
            refine value_ (w1 := ?_) (v := ?_) (by rfl) rfl ?_ ?_
            rotate_left 2
            · go_simp
              constructor
              · rfl
              · rfl
            refine hK.out _ _ (hh0.alloc _) (fun hh2 => ?_)
            clear hK K
            refine norm_ (a' := ?_) ?_ ?_
            rotate_left
            · show Act.put _ (some 128) _ = _
              simp only [Act.put, List.setIfInBounds_toArray, List.set_cons_zero, List.set_cons_succ, i64_w, i32_w]
              rfl
            refine one_ (i := 16) (N := some 129) #[true, true, true, true, true, true, true, true, true, true, true, true, true, true, true, true, true, false] rfl rfl (by kernel_rfl) (by decide) (fun K hK => ?_)
            refine Kd.R_append_step (Kd.int .i64) (w0 := wd) w1.heap.size (by rfl) (.tmp 117) (.tmp 128) 28 3 (.int .i64 0) 8 rfl Tryd.underlying28 i3 rfl (by decide) (by omega) cur (nums.take j) vj [.int .i64 vj] (fun q => q ≠ W.heap.size) (fun _ => False) rfl rfl rfl (fun _ hk => hk.elim) (fun q hq => by have h1 := HT1.out.size; have h2 := HB1.out.size; have h3 := hh0.lt; omega) HR1.out (Below.refl _ _) HT1.out.size (by simp; omega) ?_
            intro v5 w5 ho hb hg hat
            have HR5 : Aside0 (Kd.R (Kd.int .i64) 3 w5 w1.heap.size (fun q => q ≠ W.heap.size) v5 (nums.take (j + 1))) := ⟨by rw [List.take_add_one, HVJ.out]; exact ho⟩
            have HT5 := Aside0.mk (HT1.out.grown hg (fun q hq => .inr (Kd.R_base HR1.out q hq)))
            refine hK.out _ _ (hh0.kept hg (fun e => HR1.out.1 _ e.symm rfl)) (fun hh5 => ?_)
            clear hK K ho hb hg hat hh2
            refine norm_ (a' := ?_) ?_ ?_
            rotate_left
            · show Act.put _ (some 129) _ = _
              simp only [Act.put, List.setIfInBounds_toArray, List.set_cons_zero, List.set_cons_succ, i64_w, i32_w]
              rfl
            obtain ⟨w6, hrun, m6, g6⟩ := hh5.upd Tryd.underlying32 (by unfold maxLen; omega) (K64.mk HTAG.out.1 HTAG.out.2) v5
            have HM6 := Aside0.mk m6
            have HG6 := Aside0.mk g6
            clear m6 g6
            refine last_ (i := 17) (N := none) #[true, true, true, true, true, true, true, true, true, true, true, true, true, true, true, true, true, true] rfl rfl (by kernel_rfl) (by decide) (fun K hK => ?_)
            refine skip_ (w1 := w6) (by rfl) rfl ?_ ?_
            · go_simp
            refine hK.out _ _ ?_
            clear hK K hrun
            refine done_ (by kernel_rfl) ?_
            go_wp2
            go_roundg (nums.length - (j + 1))
            case measure => have := HJ.out; omega
            case rel => exact ⟨j + 1, v5, _, by go_num, ⟨rfl, by omega⟩, HM6, ⟨by simp, fun t ht => by simp only [ht, if_false]; exact HC1.out.2.1 t ht, fun _ => by simp⟩, ⟨Kd.R_grown HR5.out HG6.out (fun q hq e => hq (by injection e))⟩, ⟨HT5.out.grown HG6.out (fun q hq => .inl (by injection hq with hq; exact hq.symm))⟩⟩
            -- >
          ·
            -- <X3
            obtain rfl : nums.length = j := by omega
            go_wp2
            go_roundg (es.length - (k + 1))
            case measure => have := HK.out; omega
            case rel =>
              refine ⟨k + 1, tag, rfl, by go_num, ⟨rfl, by omega⟩, ⟨by omega, by omega, fun j e hj he => tags_next es HASC.out k _ HEE.out j e hj he⟩, ⟨?_⟩, ⟨Turn.below HB1.out HB1.out.size HTn.out (fun q hq => by omega)⟩⟩
              rw [List.take_length] at HR
              exact maprows_next es k ⟨tag, 3, nums⟩ HEE.out HASC.out HB1.out.size HG.out.1 HG.out.2 (HI.out.mono (by have := hl2; show 1000 * k + nums.length ≤ 1000 * (k + 1); omega)) HC1.out.2.1 (HC1.out.2.2 (by omega)) HR.out HTn.out
            -- >
        -- >
      · have hwd : (⟨tag, 4, nums⟩ : Ent).wd = 4 := rfl
        rw [hwd] at hf1 hf2 hf3 hf4
        clear hwd
        -- <R4
        have RT := Aside0.mk (read_lit2 big A N c bs (dir + 2 + 12 * k) ((dir : Int) + 2 + 12 * (k : Int)) (by omega) tag W (by omega) (by omega) (by omega) (by omega) hT HC.out)
        have RK := Aside0.mk (read_lit2 big A N c bs (dir + 2 + 12 * k + 2) ((dir : Int) + 2 + 12 * (k : Int) + 2) (by omega) 4 W (by omega) (by omega) (by omega) (by omega) hK HC.out)
        have RN := Aside0.mk (read_lit4 big A N c bs (dir + 2 + 12 * k + 4) ((dir : Int) + 2 + 12 * (k : Int) + 4) (by omega) (nums.length : Int) W (by omega) (by omega) (by omega) (by omega) hNm HC.out)
        have HF := Aside0.mk (And.intro hf1 (And.intro hf2 hf4))
        have hf3' : f + 4 * nums.length ≤ N := by have := HNB.out; omega
        clear hT hK hNm hf1 hf2 hf4 hf3
        have HTAG := Aside0.mk (show -9223372036854775808 ≤ tag ∧ tag ≤ 9223372036854775807 by omega)
        have HV := Aside0.mk hvals
        clear hvals
        have HB1 := Aside0.mk (HB.out.alloc HB.out.size (.cells #[.int .i64 0, .int .i64 1, .int .i64 1, .int .i64 2, .int .i64 4, .int .i64 8] 3))
        have HM1 : Aside0 (MapRows (wr.alloc (.cells #[.int .i64 0, .int .i64 1, .int .i64 1, .int .i64 2, .int .i64 4, .int .i64 8] 3)) W.heap.size W.heap.size (1000 * k) (es.take k)) := ⟨by obtain ⟨f, h1, h2, h3⟩ := HM.out; exact ⟨f, h1.alloc _, h2, fun e he => by obtain ⟨v, a, b⟩ := h3 e he; exact ⟨v, a, Kd.R_alloc b _⟩⟩⟩
        go_upto_if 94 with (first | (go_at_call 30; (with_reducible refine (RT.out _ HB.out).mono ?_); rintro e w' ⟨rfl, rfl⟩) | (go_at_call 30; (with_reducible refine (RK.out _ HB.out).mono ?_); rintro e w' ⟨rfl, rfl⟩) | (go_at_call 30; (with_reducible refine (RN.out _ HB.out).mono ?_); rintro e w' ⟨rfl, rfl⟩))
        have HB1o := HB1
        generalize wr.alloc (.cells #[.int .i64 0, .int .i64 1, .int .i64 1, .int .i64 2, .int .i64 4, .int .i64 8] 3) = w1 at HB1 HB1o HM1 ⊢
        clear HB1o RT RK RN HM HB
        obtain ⟨b94, h94⟩ : ∃ b : Bool, b = decide ((4 : Int) < 4 * (nums.length : Int)) := ⟨_, rfl⟩
        rw [← h94]
        have T94 := Aside0.mk h94
        clear h94
        go_cut [16] from 95 to 99 (fun v16 wx => v16 = .int .i64 (f : Int) ∧ w1 = wx)
        case first =>
          cases b94
          · have hf1 := HF.out.1 (by have h := T94.out; have h2 := of_decide_eq_false h.symm; omega)
            go_wp2_with (fail)
            go_meet
            exact ⟨congrArg (Value.int .i64) (by omega), rfl⟩
          · have h4 := HF.out.2.1 (by have h := T94.out; have h2 := of_decide_eq_true h.symm; omega)
            have RF := Aside0.mk (read_lit4 big A N c bs (dir + 2 + 12 * k + 8) ((dir : Int) + 2 + 12 * (k : Int) + 8) (by omega) (f : Int) W (by omega) (by omega) (by omega) (by omega) h4 HC.out)
            clear h4
            go_wp2_with (go_at_call 30; (with_reducible refine (RF.out _ HB1.out).mono ?_); rintro e w' ⟨rfl, rfl⟩)
            go_meet
            exact ⟨rfl, rfl⟩
        case rest =>
        obtain ⟨rfl, rfl⟩ := hcut
        clear T94
        obtain ⟨g, hI, hg2, hg3⟩ := HM1.out
        have HI := Aside0.mk hI
        have HG := Aside0.mk (And.intro hg2 hg3)
        have hnone : g tag = none := by
          cases hgt : g tag with
          | none => rfl
          | some v =>
            obtain ⟨e, he, het⟩ := hg2 tag (by rw [hgt]; simp)
            exact absurd (tags_ne es HASC.out k _ HEE.out e he) (by rw [het]; exact Int.lt_irrefl _)
        have HNONE := Aside0.mk hnone
        clear hI hg2 hg3 hnone HM1
        go_upto_region 26 with (fail)
        obtain ⟨ga, rfl⟩ : ∃ ga : Nat, ga = gk := ⟨_, rfl⟩
        go_loopg [110] nums.length (fun kq v110 wr => ∃ (j : Nat) (cur : Value) (g1 : Int → Option Value), v110 = .int .i64 j ∧ Aside0 (kq = nums.length - j ∧ j ≤ nums.length) ∧ Aside0 (IMap wr W.heap.size (1000 * k + j) g1) ∧ Aside0 ((g1 tag).getD (.slice none 0 0) = cur ∧ (∀ t, t ≠ tag → g1 t = g t) ∧ (0 < j → g1 tag = some cur)) ∧ Aside0 (Kd.R (Kd.int .i64) 3 wr w1.heap.size (fun q => q ≠ W.heap.size) cur (nums.take j)) ∧ Aside0 (Turn (fun q => q = W.heap.size) w1 wr))
        case atStart => exact ⟨0, .slice none 0 0, g, rfl, ⟨rfl, by omega⟩, HI, ⟨by rw [HNONE.out]; rfl, fun _ _ => rfl, fun h => by omega⟩, ⟨Kd.R_nil _ _ _ _ _⟩, ⟨Turn.refl _ _⟩⟩
        case round =>
          clear HI
          obtain ⟨j, cur, g1, rfl, HJ, HI, HC1, HR, HTn⟩ := hrel
          have hj1 := HJ.out.2
          rcases Nat.lt_or_ge j nums.length with hj | hj
          ·
            -- <I4
            obtain ⟨vj, hvj⟩ : ∃ v, nums[j]? = some v := ⟨_, List.getElem?_eq_getElem hj⟩
            have hvb := HV.out vj (List.mem_of_getElem? hvj)
            have hv0 := hvb.1
            have hv1 := hvb.2.2
            have hf8 := HF8.out
            have RV := Aside0.mk (read_lit4 big A N c bs (f + 4 * j) ((f : Int) + 4 * (j : Int)) (by omega) vj W (by omega) (by omega) (by omega) (by omega) (HF.out.2.2 j vj hvj) HC.out)
            have HVJ := Aside0.mk hvj
            clear hvj hvb hv0 hv1 hf8
            have hmin := (show (min (4 : Int) 4) = 4 from by decide)
            go_upto_region 28 with (fail)
            have hb1 : IMap wr.drew W.heap.size (1000 * k + j) g1 := HI.out.drew
            have HR1 : Aside0 (Kd.R (Kd.int .i64) 3 wr.drew w1.heap.size (fun q => q ≠ W.heap.size) cur (nums.take j)) := ⟨Kd.R_step HR.out (fun _ _ _ => rfl)⟩
            have HT1 : Aside0 (Turn (fun q => q = W.heap.size) w1 wr.drew) := ⟨HTn.out.drew⟩
            refine start_ (n := 18) (S := fun w' => IMap w' W.heap.size (1000 * k + j) g1) (ds := [17]) #[false, false, false, false, false, false, false, false, false, false, false, false, false, false, false, false, false, false] (by kernel_rfl) rfl rfl hb1 (fun hh0 => ?_)
            generalize wr.drew = wd at HR1 HT1 hh0 ⊢
            refine pure_ (i := 0) (N := some 113) (v := ?_) (a' := ?_) #[true, false, false, false, false, false, false, false, false, false, false, false, false, false, false, false, false, false] rfl rfl (by kernel_rfl) (fun _ _ _ h => h) (Or.inl ⟨by rfl, ?_⟩) ?_ ?_
            rotate_left
            · intro w'
              go_simp
              with_reducible rfl
            rotate_left
            · simp only [Act.put, List.setIfInBounds_toArray, List.set_cons_zero, List.set_cons_succ, i64_w, i32_w]
              rfl
            refine pure_ (i := 1) (N := some 114) (v := ?_) (a' := ?_) #[true, true, false, false, false, false, false, false, false, false, false, false, false, false, false, false, false, false] rfl rfl (by kernel_rfl) (fun _ _ _ h => h) (Or.inl ⟨by rfl, ?_⟩) ?_ ?_
            rotate_left
            · intro w'
              go_simp
              with_reducible rfl
            rotate_left
            · simp only [Act.put, List.setIfInBounds_toArray, List.set_cons_zero, List.set_cons_succ, i64_w, i32_w]
              rfl
            refine pure_ (i := 2) (N := some 115) (v := ?_) (a' := ?_) #[true, true, true, false, false, false, false, false, false, false, false, false, false, false, false, false, false, false] rfl rfl (by kernel_rfl) (fun _ _ _ h => h) (Or.inl ⟨by rfl, ?_⟩) ?_ ?_
            rotate_left
            · intro w'
              go_simp
              with_reducible rfl
            rotate_left
            · simp only [Act.put, List.setIfInBounds_toArray, List.set_cons_zero, List.set_cons_succ, i64_w, i32_w]
              rfl
            refine pure_ (i := 3) (N := some 116) (v := ?_) (a' := ?_) #[true, true, true, true, false, false, false, false, false, false, false, false, false, false, false, false, false, false] rfl rfl (by kernel_rfl) (fun _ _ _ h => h) (Or.inl ⟨by rfl, ?_⟩) ?_ ?_
            rotate_left
            · intro w'
              go_simp
              with_reducible rfl
            rotate_left
            · simp only [Act.put, List.setIfInBounds_toArray, List.set_cons_zero, List.set_cons_succ, i64_w, i32_w]
              rfl
            refine take_ (i := 4) (N := some 117) (v := cur) (a' := ?_) #[true, true, true, true, true, false, false, false, false, false, false, false, false, false, false, false, false, false] rfl rfl (by kernel_rfl) (fun _ _ _ h => h) (Or.inl ⟨by rfl, ?_⟩) hh0 ?_ ?_
            · rintro w' s2
              have hl := IMap.look s2 Tryd.underlying32 (zero28 w') (K64.mk HTAG.out.1 HTAG.out.2)
              rw [HC1.out.1] at hl
              go_simp
            rotate_left
            · simp only [Act.put, List.setIfInBounds_toArray, List.set_cons_zero, List.set_cons_succ, i64_w, i32_w]
              rfl
            refine pure_ (i := 5) (N := some 118) (v := ?_) (a' := ?_) #[true, true, true, true, true, true, false, false, false, false, false, false, false, false, false, false, false, false] rfl rfl (by kernel_rfl) (fun _ _ _ h => h) (Or.inl ⟨by rfl, ?_⟩) ?_ ?_
            rotate_left
            · intro w'
              go_simp
              with_reducible rfl
            rotate_left
            · simp only [Act.put, List.setIfInBounds_toArray, List.set_cons_zero, List.set_cons_succ, i64_w, i32_w]
              rfl
            refine pure_ (i := 6) (N := some 119) (v := ?_) (a' := ?_) #[true, true, true, true, true, true, true, false, false, false, false, false, false, false, false, false, false, false] rfl rfl (by kernel_rfl) (fun _ _ _ h => h) (Or.inl ⟨by rfl, ?_⟩) ?_ ?_
            rotate_left
            · intro w'
              go_simp
              with_reducible rfl
            rotate_left
            · simp only [Act.put, List.setIfInBounds_toArray, List.set_cons_zero, List.set_cons_succ, i64_w, i32_w]
              rfl
            refine pure_ (i := 7) (N := some 120) (v := ?_) (a' := ?_) #[true, true, true, true, true, true, true, true, false, false, false, false, false, false, false, false, false, false] rfl rfl (by kernel_rfl) (fun _ _ _ h => h) (Or.inl ⟨by rfl, ?_⟩) ?_ ?_
            rotate_left
            · intro w'
              go_simp
              with_reducible rfl
            rotate_left
            · simp only [Act.put, List.setIfInBounds_toArray, List.set_cons_zero, List.set_cons_succ, i64_w, i32_w]
              rfl
            refine pure_ (i := 8) (N := some 121) (v := ?_) (a' := ?_) #[true, true, true, true, true, true, true, true, true, false, false, false, false, false, false, false, false, false] rfl rfl (by kernel_rfl) (fun _ _ _ h => h) (Or.inl ⟨by rfl, ?_⟩) ?_ ?_
            rotate_left
            · intro w'
              go_simp
              with_reducible rfl
            rotate_left
            · simp only [Act.put, List.setIfInBounds_toArray, List.set_cons_zero, List.set_cons_succ, i64_w, i32_w]
              rfl
            refine pure_ (i := 9) (N := some 122) (v := ?_) (a' := ?_) #[true, true, true, true, true, true, true, true, true, true, false, false, false, false, false, false, false, false] rfl rfl (by kernel_rfl) (fun _ _ _ h => h) (Or.inl ⟨by rfl, ?_⟩) ?_ ?_
            rotate_left
            · intro w'
              go_simp
              with_reducible rfl
            rotate_left
            · simp only [Act.put, List.setIfInBounds_toArray, List.set_cons_zero, List.set_cons_succ, i64_w, i32_w]
              rfl
            refine pure_ (i := 10) (N := some 123) (v := ?_) (a' := ?_) #[true, true, true, true, true, true, true, true, true, true, true, false, false, false, false, false, false, false] rfl rfl (by kernel_rfl) (fun _ _ _ h => h) (Or.inl ⟨by rfl, ?_⟩) ?_ ?_
            rotate_left
            · intro w'
              go_simp
              with_reducible rfl
            rotate_left
            · simp only [Act.put, List.setIfInBounds_toArray, List.set_cons_zero, List.set_cons_succ, i64_w, i32_w]
              rfl
            refine pure_ (i := 11) (N := some 124) (v := ?_) (a' := ?_) #[true, true, true, true, true, true, true, true, true, true, true, true, false, false, false, false, false, false] rfl rfl (by kernel_rfl) (fun _ _ _ h => h) (Or.inl ⟨by rfl, ?_⟩) ?_ ?_
            rotate_left
            · intro w'
              go_simp
              with_reducible rfl
            rotate_left
            · simp only [Act.put, List.setIfInBounds_toArray, List.set_cons_zero, List.set_cons_succ, i64_w, i32_w]
              rfl
            refine pure_ (i := 12) (N := some 125) (v := ?_) (a' := ?_) #[true, true, true, true, true, true, true, true, true, true, true, true, true, false, false, false, false, false] rfl rfl (by kernel_rfl) (fun _ _ _ h => h) (Or.inl ⟨by rfl, ?_⟩) ?_ ?_
            rotate_left
            · intro w'
              go_simp
              with_reducible rfl
            rotate_left
            · simp only [Act.put, List.setIfInBounds_toArray, List.set_cons_zero, List.set_cons_succ, i64_w, i32_w]
              rfl
            refine pure_ (i := 13) (N := some 126) (v := ?_) (a' := ?_) #[true, true, true, true, true, true, true, true, true, true, true, true, true, true, false, false, false, false] rfl rfl (by kernel_rfl) (fun _ _ _ h => h) (Or.inl ⟨by rfl, ?_⟩) ?_ ?_
            rotate_left
            · intro w'
              go_simp
              with_reducible rfl
            rotate_left
            · simp only [Act.put, List.setIfInBounds_toArray, List.set_cons_zero, List.set_cons_succ, i64_w, i32_w]
              rfl
            obtain ⟨x1, x2⟩ : wrap64 (4 * (j : Int)) = 4 * (j : Int) ∧ wrap64 ((f : Int) + 4 * (j : Int)) = (f : Int) + 4 * (j : Int) := ⟨w64n (by omega) (by omega), w64n (by omega) (by omega)⟩
            rw [x1, x2]
            clear x1 x2
            refine one_ (i := 14) (N := some 127) #[true, true, true, true, true, true, true, true, true, true, true, true, true, true, true, false, false, false] rfl rfl (by kernel_rfl) (by decide) (fun K hK => ?_)
            refine goes_ Tryd.func30 (by kernel_rfl) rfl #[.bool big, .int .i64 4, .slice A N c, .int .i64 ((f : Int) + 4 * (j : Int))] (by rfl) rfl rfl (by simp [Act.eval]) ?_
            refine (RV.out _ (Turn.below HB1.out HB1.out.size HT1.out (fun q hq => by omega))).mono ?_
            rintro e w' ⟨rfl, rfl⟩
            refine ⟨_, rfl, ?_⟩
            refine hK.out _ _ hh0 (fun hh1 => ?_)
            clear hK K hh1
            refine norm_ (a' := ?_) ?_ ?_
            rotate_left
            · show Act.put _ (some 127) _ = _
              simp only [Act.put, List.setIfInBounds_toArray, List.set_cons_zero, List.set_cons_succ, i64_w, i32_w]
              rfl
            refine one_ (i := 15) (N := some 128) #[true, true, true, true, true, true, true, true, true, true, true, true, true, true, true, true, false, false] rfl rfl (by kernel_rfl) (by decide) (fun K hK => ?_)
            refine value_ (w1 := ?_) (v := ?_) (by rfl) rfl ?_ ?_
            rotate_left 2
            · go_simp
              constructor
              · rfl
              · rfl
            refine hK.out _ _ (hh0.alloc _) (fun hh2 => ?_)
            clear hK K
            refine norm_ (a' := ?_) ?_ ?_
            rotate_left
            · show Act.put _ (some 128) _ = _
              simp only [Act.put, List.setIfInBounds_toArray, List.set_cons_zero, List.set_cons_succ, i64_w, i32_w]
              rfl
            refine one_ (i := 16) (N := some 129) #[true, true, true, true, true, true, true, true, true, true, true, true, true, true, true, true, true, false] rfl rfl (by kernel_rfl) (by decide) (fun K hK => ?_)
            refine Kd.R_append_step (Kd.int .i64) (w0 := wd) w1.heap.size (by rfl) (.tmp 117) (.tmp 128) 28 3 (.int .i64 0) 8 rfl Tryd.underlying28 i3 rfl (by decide) (by omega) cur (nums.take j) vj [.int .i64 vj] (fun q => q ≠ W.heap.size) (fun _ => False) rfl rfl rfl (fun _ hk => hk.elim) (fun q hq => by have h1 := HT1.out.size; have h2 := HB1.out.size; have h3 := hh0.lt; omega) HR1.out (Below.refl _ _) HT1.out.size (by simp; omega) ?_
            intro v5 w5 ho hb hg hat
            have HR5 : Aside0 (Kd.R (Kd.int .i64) 3 w5 w1.heap.size (fun q => q ≠ W.heap.size) v5 (nums.take (j + 1))) := ⟨by rw [List.take_add_one, HVJ.out]; exact ho⟩
            have HT5 := Aside0.mk (HT1.out.grown hg (fun q hq => .inr (Kd.R_base HR1.out q hq)))
            refine hK.out _ _ (hh0.kept hg (fun e => HR1.out.1 _ e.symm rfl)) (fun hh5 => ?_)
            clear hK K ho hb hg hat hh2
            refine norm_ (a' := ?_) ?_ ?_
            rotate_left
            · show Act.put _ (some 129) _ = _
              simp only [Act.put, List.setIfInBounds_toArray, List.set_cons_zero, List.set_cons_succ, i64_w, i32_w]
              rfl
            obtain ⟨w6, hrun, m6, g6⟩ := hh5.upd Tryd.underlying32 (by unfold maxLen; omega) (K64.mk HTAG.out.1 HTAG.out.2) v5
            have HM6 := Aside0.mk m6
            have HG6 := Aside0.mk g6
            clear m6 g6
            refine last_ (i := 17) (N := none) #[true, true, true, true, true, true, true, true, true, true, true, true, true, true, true, true, true, true] rfl rfl (by kernel_rfl) (by decide) (fun K hK => ?_)
            refine skip_ (w1 := w6) (by rfl) rfl ?_ ?_
            · go_simp
            refine hK.out _ _ ?_
            clear hK K hrun
            refine done_ (by kernel_rfl) ?_
            go_wp2
            go_roundg (nums.length - (j + 1))
            case measure => have := HJ.out; omega
            case rel => exact ⟨j + 1, v5, _, by go_num, ⟨rfl, by omega⟩, HM6, ⟨by simp, fun t ht => by simp only [ht, if_false]; exact HC1.out.2.1 t ht, fun _ => by simp⟩, ⟨Kd.R_grown HR5.out HG6.out (fun q hq e => hq (by injection e))⟩, ⟨HT5.out.grown HG6.out (fun q hq => .inl (by injection hq with hq; exact hq.symm))⟩⟩
            -- >
          ·
            -- <X4
            obtain rfl : nums.length = j := by omega
            go_wp2
            go_roundg (es.length - (k + 1))
            case measure => have := HK.out; omega
            case rel =>
              refine ⟨k + 1, tag, rfl, by go_num, ⟨rfl, by omega⟩, ⟨by omega, by omega, fun j e hj he => tags_next es HASC.out k _ HEE.out j e hj he⟩, ⟨?_⟩, ⟨Turn.below HB1.out HB1.out.size HTn.out (fun q hq => by omega)⟩⟩
              rw [List.take_length] at HR
              exact maprows_next es k ⟨tag, 4, nums⟩ HEE.out HASC.out HB1.out.size HG.out.1 HG.out.2 (HI.out.mono (by have := hl2; show 1000 * k + nums.length ≤ 1000 * (k + 1); omega)) HC1.out.2.1 (HC1.out.2.2 (by omega)) HR.out HTn.out
            -- >
        -- >
      -- >
    ·
      -- <EXIT
      obtain rfl : es.length = k := by omega
      rw [List.take_length] at HM
      go_wp2
      go_ret2
      exact ⟨rfl, (by obtain ⟨f, h1, h2, h3⟩ := HM.out; exact ⟨f, h1.mono (by omega), h2, h3⟩), HB.out⟩
      -- >
end Go.Proofs.YtnodmobblamlgaaDoor
