/- tiff's ifdUint, walked for each order of bytes and each kind of number. Printed by genifd.py. -/
import Derived.Test.YtnodmobblamlgaaDoorEDecABC
import Derived.Deep.Heap
namespace Go.Proofs.YtnodmobblamlgaaDoor
open Go.RowKit Go.Proofs.YtnodmobblamlgaaDoorW.PrintWords Go.Proofs.YtnodmobblamlgaaDoorW.PrintLast Go.Proofs.YtnodmobblamlgaaDoorW.PrintMore
set_option linter.unusedVariables false
set_option linter.unusedSimpArgs false

set_option maxRecDepth 100000 in
set_option maxHeartbeats 8000000 in
theorem ifdUint_false3 (d g : Nat) (A : Option Addr) (c N : Nat) (xs : List Int) (q f n : Nat) (ys : List Int) (P : Option Addr) (cap : Nat) (W : World) (hN : xs.length = N) (hcN : N ≤ c) (hl : N ≤ 13000000) (hcap : 12 ≤ cap) (hn : ys.length = n) (hn1 : 1 ≤ n) (hn2 : n ≤ 768)
    (hv : ∀ v ∈ ys, 0 ≤ v ∧ v < 65536) (hW : DW W d g 118 A c N xs) (hP : Kd.C (Kd.int .u8) W P 12 ((xs.drop q).take 12)) (hq : q + 12 ≤ N) (hK : AtN false 2 xs (q + 2) 3) (hNm : AtN false 4 xs (q + 4) n)
    (hf1 : 2 * n ≤ 4 → f = q + 8) (hf2 : 4 < 2 * n → AtN false 4 xs (q + 8) f) (hf3 : f + 2 * n ≤ N) (hf4 : ∀ j v, ys[j]? = some v → AtN false 2 xs (f + 2 * j) v) :
    Calls Tryd.prog 52 #[.pointer (some ⟨d, 0, none⟩), .slice P 12 cap] W fun e w' => ∃ gb, e = .returned (.tuple #[.slice (some ⟨gb, 0, none⟩) n n, .nilIface]) ∧ Kd.C (Kd.int .u64) w' (some ⟨gb, 0, none⟩) n ys ∧ W.heap.size ≤ gb ∧ Below W.heap.size W w' := by
  obtain ⟨A2, cut2, hA2⟩ := row_cut false 2 2 4 xs q 12 3 P cap hK rfl (by omega) (by omega) hcap .i64 .i64 2 4 rfl rfl
  obtain ⟨A4, cut4, hA4⟩ := row_cut false 4 4 8 xs q 12 n P cap hNm rfl (by omega) (by omega) hcap .i64 .i64 4 8 rfl rfl
  have HW := Aside0.mk hW
  have HP := Aside0.mk hP
  have HN := Aside0.mk hN
  have HV := Aside0.mk hv
  have HF := Aside0.mk (And.intro hf1 (And.intro hf2 hf4))
  have R2 := Aside0.mk (fun w (hw : Below W.heap.size W w) => le16_any A2 (cap - 2) 3 w (by omega) (by omega) (hA2 w (Kd.C_below hP hw)))
  have R4 := Aside0.mk (fun w (hw : Below W.heap.size W w) => le32_any A4 (cap - 4) n w (by omega) (by omega) (hA4 w (Kd.C_below hP hw)))
  have HNN := Aside0.mk hn
  clear hK hNm hf1 hf2 hf4 hv hA2 hA4 hW hP hn hN
  have c0 := HW.out.c0
  have c1 := HW.out.c1
  have l3 := HW.out.l3
  have l4 := HW.out.l4
  have nA := nilAhead_16l
  have mA := method_16l
  have nB := nilAhead_32l
  have mB := method_32l
  have HB0 := Aside0.mk (Below.refl W.heap.size W)
  go_enter Tryd.func52, Tryd.ntmps52
  go_upto_region 4 with (fail)
  go_region_with (go_at_call 88; (with_reducible refine (R2.out _ (by repeat (first | exact HB0.out | apply below_drew | apply pw_below_drewN))).mono ?_); rintro e w1 ⟨rfl, k1⟩; have K1 := Aside0.mk k1; clear k1)
  have HB1 := Aside0.mk (show Below W.heap.size W w1 from ⟨K1.out.os, K1.out.tape, K1.out.output, K1.out.size, K1.out.block⟩)
  have HW1 := Aside0.mk (HW.out.below HB1.out)
  have c0 := HW1.out.c0
  have c1 := HW1.out.c1
  have l3 := HW1.out.l3
  have l4 := HW1.out.l4
  clear K1 R2
  go_upto_region 8 with (fail)
  go_region_with (go_at_call 89; (with_reducible refine (R4.out _ (by repeat (first | exact HB1.out | apply below_drew | apply pw_below_drewN))).mono ?_); rintro e w2 ⟨rfl, k1⟩; have K1 := Aside0.mk k1; clear k1)
  have HB2 := Aside0.mk (show Below W.heap.size W w2 from HB1.out.trans (show Below W.heap.size w1 w2 from (show Below w1.heap.size w1 w2 from ⟨K1.out.os, K1.out.tape, K1.out.output, K1.out.size, K1.out.block⟩).mono HB1.out.size))
  have HW2 := Aside0.mk (HW.out.below HB2.out)
  clear c0 c1 l3 l4 K1 R4 HW1 HB1
  have c0 := HW2.out.c0
  have c1 := HW2.out.c1
  have l3 := HW2.out.l3
  have l4 := HW2.out.l4
  clear w1
  have hquo : ¬ ((1073741823 : Int) < (n : Int)) := by omega
  go_upto_if 58 with (fail)
  obtain ⟨b58, h58⟩ : ∃ b : Bool, b = decide ((4 : Int) < 2 * (n : Int)) := ⟨_, rfl⟩
  rw [← h58]
  have T58 := Aside0.mk h58
  clear h58
  have HB2o := HB2
  go_cut [5, 6] from 59 to 82 (fun v5 v6 wx => ∃ (P3 : Option Addr) (c3 : Nat), v5 = .nilIface ∧ v6 = .slice P3 (2 * n) c3 ∧ Aside0 (Kd.C (Kd.int .u8) wx P3 (2 * n) ((xs.drop f).take (2 * n))) ∧ Aside0 (2 * n ≤ c3) ∧ Aside0 (Below W.heap.size W wx))
  case first =>
    cases b58
    · have h4 : 2 * n ≤ 4 := by have h := T58.out; have h2 := of_decide_eq_false h.symm; omega
      obtain ⟨A8, cut8, hA8⟩ := cutk_u8 P cap 12 ((xs.drop q).take 12) 8 (8 + 2 * n) (by rw [List.length_take, List.length_drop, HN.out]; omega) (by omega) (by omega) hcap .i64 .u32 8 (8 + 2 * (n : Int)) rfl (by omega)
      have e8 : 8 + 2 * n - 8 = 2 * n := by omega
      rw [e8] at cut8 hA8
      have HA8 := Aside0.mk hA8
      clear hA8 e8
      go_wp2
      go_meet
      have h8 := HA8.out w2 (Kd.C_below HP.out HB2.out)
      refine ⟨_, _, rfl, rfl, ⟨?_⟩, ⟨by omega⟩, HB2⟩
      have e9 : ((((xs.drop q).take 12).take (8 + 2 * n)).drop 8) = (xs.drop f).take (2 * n) := by
        rw [HF.out.1 h4, List.take_take, Nat.min_eq_left (by omega), List.drop_take, List.drop_drop, show 8 + 2 * n - 8 = 2 * n by omega]
      rwa [e9] at h8
    · have h4 : 4 < 2 * n := by have h := T58.out; have h2 := of_decide_eq_true h.symm; omega
      obtain ⟨A8, cut8, hA8⟩ := row_cut false 4 8 12 xs q 12 f P cap (HF.out.2.1 h4) rfl (by omega) (by have := HN.out; omega) hcap .i64 .i64 8 12 rfl rfl
      have R8 := Aside0.mk (fun w (hw : Below W.heap.size W w) => le32_any A8 (cap - 8) f w (by omega) (by omega) (hA8 w (Kd.C_below HP.out hw)))
      have RS := Aside0.mk (safe_lit g A c (2 * n) (IntKind.u64.wrap (2 * (n : Int))) (IntKind.i64.wrap (f : Int)) xs N f w2 HN.out (by rw [IntKind.wrap_u64]; omega) (by rw [IntKind.wrap_i64]; omega) (by omega) (by omega) hf3 hcN hl HW2.out.rd HW2.out.file)
      clear hA8
      -- <R13
      go_upto_region 13 with (fail)
      clear cut2 cut4 nA mA
      go_region_with (first | (go_at_call 89; (with_reducible refine (R8.out _ (by repeat (first | exact HB2.out | apply below_drew | apply pw_below_drewN))).mono ?_); rintro e w3 ⟨rfl, k1⟩; have HB3 := Aside0.mk (show Below w2.heap.size w2 w3 from ⟨k1.os, k1.tape, k1.output, k1.size, k1.block⟩); clear k1; have d0 := (HW2.out.below HB3.out).c0; have d1 := (HW2.out.below HB3.out).c1) | (go_at_call 42; (with_reducible refine (RS.out _ HB3.out).mono ?_); rintro e w4 ⟨gb, rfl, k1, k2⟩; have KC := Aside0.mk k1; have KB := Aside0.mk k2; clear k1 k2))
      all_goals
        go_wp2
        go_meet
        have hb3 := HB3.out.mono HB2.out.size
        exact ⟨_, _, rfl, rfl, KC, ⟨Nat.le_refl _⟩, ⟨(HB2.out.trans hb3).trans (KB.out.mono (Nat.le_trans HB2.out.size hb3.size))⟩⟩
      -- >
  case rest =>
  obtain ⟨P3, c3, rfl, rfl, HC3, HC4, HBx⟩ := hcut
  have hc3 := HC4.out
  clear HW2 HB2o T58 c0 c1 l3 l4 HC4 cut2 cut4
  have hmk := run_make_row' (P := Tryd.prog) 38 39 (.int .u64 0) 8 Tryd.underlying38 info39 rfl .u32 .u32 n (by omega) (by omega) wc
  have HM0 := Aside0.mk (Go.Deep.blk_alloc_new wc (.cells (madeCells #[Value.int .u64 0] n) 39))
  have HB3 := Aside0.mk ((Below.refl wc.heap.size wc).alloc (Nat.le_refl _) (.cells (madeCells #[Value.int .u64 0] n) 39))
  have HT3 := Aside0.mk (Turn.refl (fun k => k = wc.heap.size) (wc.alloc (.cells (madeCells #[Value.int .u64 0] n) 39)))
  have HZ := Aside0.mk (show (madeCells #[Value.int .u64 0] n).size = n by simp [size_madeCells])
  have HG0 := Aside0.mk HBx.out.size
  go_upto_region 27 with (fail)
  clear hmk
  go_loopg [12] n (fun kq v wr => ∃ (j : Nat) (cur : Array Value), v = .int .u32 j ∧ Aside0 (kq = n - j ∧ j ≤ n) ∧ Aside0 (wr.heap[wc.heap.size]? = some (.cells cur 39 (0, 0)) ∧ cur.size = n) ∧ Aside0 (cur.toList.take j = nums .u64 (ys.take j)) ∧ Aside0 (Turn (fun k => k = wc.heap.size) (wc.alloc (.cells (madeCells #[Value.int .u64 0] n) 39)) wr))
  case atStart => exact ⟨0, _, rfl, ⟨rfl, by omega⟩, ⟨HM0.out, HZ.out⟩, ⟨rfl⟩, HT3⟩
  case round =>
    obtain ⟨j, cur, rfl, HJ, HCUR, HTK, HTn⟩ := hrel
    have hj1 := HJ.out.2
    have HBr := Aside0.mk (HTn.out.below HB3.out HB3.out.size (fun k hk => Nat.le_of_eq hk.symm))
    rcases Nat.lt_or_ge j n with hj | hj
    ·
      -- <ROUND
      obtain ⟨vj, hvj⟩ : ∃ v, ys[j]? = some v := ⟨_, List.getElem?_eq_getElem (by rw [HNN.out]; exact hj)⟩
      have hvb := HV.out vj (List.mem_of_getElem? hvj)
      obtain ⟨AJ, cutj, hAJ⟩ := row_cut false 2 (2 * j) (2 * (j + 1)) xs f (2 * n) vj P3 c3 (HF.out.2.2 j vj hvj) (by omega) (by omega) (by rw [HN.out]; omega) hc3 .u32 .u32 (IntKind.u32.wrap (2 * (j : Int))) (IntKind.u32.wrap (2 * IntKind.u32.wrap ((j : Int) + 1))) (by rw [IntKind.wrap_u32]; omega) (by rw [IntKind.wrap_u32, IntKind.wrap_u32]; omega)
      have hv0 := hvb.1
      have hv1 := hvb.2
      have RJ := Aside0.mk (fun w (hw : Below wc.heap.size wc w) => le16_any AJ (c3 - 2 * j) vj w hv0 hv1 (hAJ w (Kd.C_below HC3.out hw)))
      have HWr := Aside0.mk (HW.out.below (HBx.out.trans (HBr.out.mono HG0.out)))
      have c1 := HWr.out.c1
      have HVJ := Aside0.mk hvj
      clear hvb hAJ hvj
      go_upto_region 29 with (fail)
      clear c0 l3 l4
      have hjn1 : (j : Int) < (n : Int) := by omega
      have hjn0 : (0 : Int) ≤ (j : Int) := by omega
      go_region_with (go_at_call 88; (with_reducible refine (RJ.out _ (by repeat (first | exact HBr.out | apply below_drew | apply pw_below_drewN))).mono ?_); rintro e w5 ⟨rfl, k1⟩; have HB5 := Aside0.mk (show Below wr.heap.size wr w5 from ⟨k1.os, k1.tape, k1.output, k1.size, k1.block⟩); clear k1; have hblk5 := blk_below HB5.out HCUR.out.1; have hfz := blk_frozen hblk5 j; have hce := (blk_cell hblk5 j).trans (Array.getElem?_eq_getElem (show j < cur.size by rw [HCUR.out.2]; exact hj)); have HK5 := Aside0.mk hblk5; clear hblk5)
      have hset := Turn.set HK5.out j (.int .u64 vj)
      rw [show IntKind.u64.wrap vj = vj by rw [IntKind.wrap_u64]; omega]
      clear hfz hce
      go_wp2
      go_roundg (n - (j + 1))
      case measure => have := HJ.out; omega
      case rel =>
        refine ⟨j + 1, _, by go_num, ⟨rfl, by omega⟩, ⟨hset.2, by simp [HCUR.out.2]⟩, ⟨?_⟩, ⟨(HTn.out.trans (Turn.fresh (S := fun k => k = wc.heap.size) HB5.out) (fun k hk => .inl hk)).trans hset.1 (fun k hk => .inl hk)⟩⟩
        have hjc : j < cur.size := by rw [HCUR.out.2]; exact hj
        have e1 : (cur.setIfInBounds j (.int .u64 vj)).toList.take (j + 1) = cur.toList.take j ++ [.int .u64 vj] := by
          rw [Array.toList_setIfInBounds, List.take_set, List.take_succ_eq_append_getElem (by simpa using hjc), List.set_append_right _ _ (by simp; omega)]
          simp [List.length_take, Nat.min_eq_left (Nat.le_of_lt hjc)]
        rw [e1, HTK.out]
        obtain ⟨hj', hj''⟩ := List.getElem?_eq_some_iff.1 HVJ.out
        rw [List.take_succ_eq_append_getElem hj', hj'']
        simp [nums]
      -- >
    · obtain rfl : n = j := by omega
      go_wp2
      go_ret2
      exact ⟨wc.heap.size, rfl, C_of_blk HCUR.out.1 HNN.out (by omega) (by rw [HTK.out, List.take_of_length_le (Nat.le_of_eq HNN.out)]), HG0.out, HBx.out.trans (HBr.out.mono HG0.out)⟩

set_option maxRecDepth 100000 in
set_option maxHeartbeats 8000000 in
theorem ifdUint_false4 (d g : Nat) (A : Option Addr) (c N : Nat) (xs : List Int) (q f n : Nat) (ys : List Int) (P : Option Addr) (cap : Nat) (W : World) (hN : xs.length = N) (hcN : N ≤ c) (hl : N ≤ 13000000) (hcap : 12 ≤ cap) (hn : ys.length = n) (hn1 : 1 ≤ n) (hn2 : n ≤ 768)
    (hv : ∀ v ∈ ys, 0 ≤ v ∧ v < 4294967296) (hW : DW W d g 118 A c N xs) (hP : Kd.C (Kd.int .u8) W P 12 ((xs.drop q).take 12)) (hq : q + 12 ≤ N) (hK : AtN false 2 xs (q + 2) 4) (hNm : AtN false 4 xs (q + 4) n)
    (hf1 : 4 * n ≤ 4 → f = q + 8) (hf2 : 4 < 4 * n → AtN false 4 xs (q + 8) f) (hf3 : f + 4 * n ≤ N) (hf4 : ∀ j v, ys[j]? = some v → AtN false 4 xs (f + 4 * j) v) :
    Calls Tryd.prog 52 #[.pointer (some ⟨d, 0, none⟩), .slice P 12 cap] W fun e w' => ∃ gb, e = .returned (.tuple #[.slice (some ⟨gb, 0, none⟩) n n, .nilIface]) ∧ Kd.C (Kd.int .u64) w' (some ⟨gb, 0, none⟩) n ys ∧ W.heap.size ≤ gb ∧ Below W.heap.size W w' := by
  obtain ⟨A2, cut2, hA2⟩ := row_cut false 2 2 4 xs q 12 4 P cap hK rfl (by omega) (by omega) hcap .i64 .i64 2 4 rfl rfl
  obtain ⟨A4, cut4, hA4⟩ := row_cut false 4 4 8 xs q 12 n P cap hNm rfl (by omega) (by omega) hcap .i64 .i64 4 8 rfl rfl
  have HW := Aside0.mk hW
  have HP := Aside0.mk hP
  have HN := Aside0.mk hN
  have HV := Aside0.mk hv
  have HF := Aside0.mk (And.intro hf1 (And.intro hf2 hf4))
  have R2 := Aside0.mk (fun w (hw : Below W.heap.size W w) => le16_any A2 (cap - 2) 4 w (by omega) (by omega) (hA2 w (Kd.C_below hP hw)))
  have R4 := Aside0.mk (fun w (hw : Below W.heap.size W w) => le32_any A4 (cap - 4) n w (by omega) (by omega) (hA4 w (Kd.C_below hP hw)))
  have HNN := Aside0.mk hn
  clear hK hNm hf1 hf2 hf4 hv hA2 hA4 hW hP hn hN
  have c0 := HW.out.c0
  have c1 := HW.out.c1
  have l3 := HW.out.l3
  have l4 := HW.out.l4
  have nA := nilAhead_16l
  have mA := method_16l
  have nB := nilAhead_32l
  have mB := method_32l
  have HB0 := Aside0.mk (Below.refl W.heap.size W)
  go_enter Tryd.func52, Tryd.ntmps52
  go_upto_region 4 with (fail)
  go_region_with (go_at_call 88; (with_reducible refine (R2.out _ (by repeat (first | exact HB0.out | apply below_drew | apply pw_below_drewN))).mono ?_); rintro e w1 ⟨rfl, k1⟩; have K1 := Aside0.mk k1; clear k1)
  have HB1 := Aside0.mk (show Below W.heap.size W w1 from ⟨K1.out.os, K1.out.tape, K1.out.output, K1.out.size, K1.out.block⟩)
  have HW1 := Aside0.mk (HW.out.below HB1.out)
  have c0 := HW1.out.c0
  have c1 := HW1.out.c1
  have l3 := HW1.out.l3
  have l4 := HW1.out.l4
  clear K1 R2
  go_upto_region 8 with (fail)
  go_region_with (go_at_call 89; (with_reducible refine (R4.out _ (by repeat (first | exact HB1.out | apply below_drew | apply pw_below_drewN))).mono ?_); rintro e w2 ⟨rfl, k1⟩; have K1 := Aside0.mk k1; clear k1)
  have HB2 := Aside0.mk (show Below W.heap.size W w2 from HB1.out.trans (show Below W.heap.size w1 w2 from (show Below w1.heap.size w1 w2 from ⟨K1.out.os, K1.out.tape, K1.out.output, K1.out.size, K1.out.block⟩).mono HB1.out.size))
  have HW2 := Aside0.mk (HW.out.below HB2.out)
  clear c0 c1 l3 l4 K1 R4 HW1 HB1
  have c0 := HW2.out.c0
  have c1 := HW2.out.c1
  have l3 := HW2.out.l3
  have l4 := HW2.out.l4
  clear w1
  have hquo : ¬ ((536870911 : Int) < (n : Int)) := by omega
  go_upto_if 58 with (fail)
  obtain ⟨b58, h58⟩ : ∃ b : Bool, b = decide ((4 : Int) < 4 * (n : Int)) := ⟨_, rfl⟩
  rw [← h58]
  have T58 := Aside0.mk h58
  clear h58
  have HB2o := HB2
  go_cut [5, 6] from 59 to 82 (fun v5 v6 wx => ∃ (P3 : Option Addr) (c3 : Nat), v5 = .nilIface ∧ v6 = .slice P3 (4 * n) c3 ∧ Aside0 (Kd.C (Kd.int .u8) wx P3 (4 * n) ((xs.drop f).take (4 * n))) ∧ Aside0 (4 * n ≤ c3) ∧ Aside0 (Below W.heap.size W wx))
  case first =>
    cases b58
    · have h4 : 4 * n ≤ 4 := by have h := T58.out; have h2 := of_decide_eq_false h.symm; omega
      obtain ⟨A8, cut8, hA8⟩ := cutk_u8 P cap 12 ((xs.drop q).take 12) 8 (8 + 4 * n) (by rw [List.length_take, List.length_drop, HN.out]; omega) (by omega) (by omega) hcap .i64 .u32 8 (8 + 4 * (n : Int)) rfl (by omega)
      have e8 : 8 + 4 * n - 8 = 4 * n := by omega
      rw [e8] at cut8 hA8
      have HA8 := Aside0.mk hA8
      clear hA8 e8
      go_wp2
      go_meet
      have h8 := HA8.out w2 (Kd.C_below HP.out HB2.out)
      refine ⟨_, _, rfl, rfl, ⟨?_⟩, ⟨by omega⟩, HB2⟩
      have e9 : ((((xs.drop q).take 12).take (8 + 4 * n)).drop 8) = (xs.drop f).take (4 * n) := by
        rw [HF.out.1 h4, List.take_take, Nat.min_eq_left (by omega), List.drop_take, List.drop_drop, show 8 + 4 * n - 8 = 4 * n by omega]
      rwa [e9] at h8
    · have h4 : 4 < 4 * n := by have h := T58.out; have h2 := of_decide_eq_true h.symm; omega
      obtain ⟨A8, cut8, hA8⟩ := row_cut false 4 8 12 xs q 12 f P cap (HF.out.2.1 h4) rfl (by omega) (by have := HN.out; omega) hcap .i64 .i64 8 12 rfl rfl
      have R8 := Aside0.mk (fun w (hw : Below W.heap.size W w) => le32_any A8 (cap - 8) f w (by omega) (by omega) (hA8 w (Kd.C_below HP.out hw)))
      have RS := Aside0.mk (safe_lit g A c (4 * n) (IntKind.u64.wrap (4 * (n : Int))) (IntKind.i64.wrap (f : Int)) xs N f w2 HN.out (by rw [IntKind.wrap_u64]; omega) (by rw [IntKind.wrap_i64]; omega) (by omega) (by omega) hf3 hcN hl HW2.out.rd HW2.out.file)
      clear hA8
      -- <R13
      go_upto_region 13 with (fail)
      clear cut2 cut4 nA mA
      go_region_with (first | (go_at_call 89; (with_reducible refine (R8.out _ (by repeat (first | exact HB2.out | apply below_drew | apply pw_below_drewN))).mono ?_); rintro e w3 ⟨rfl, k1⟩; have HB3 := Aside0.mk (show Below w2.heap.size w2 w3 from ⟨k1.os, k1.tape, k1.output, k1.size, k1.block⟩); clear k1; have d0 := (HW2.out.below HB3.out).c0; have d1 := (HW2.out.below HB3.out).c1) | (go_at_call 42; (with_reducible refine (RS.out _ HB3.out).mono ?_); rintro e w4 ⟨gb, rfl, k1, k2⟩; have KC := Aside0.mk k1; have KB := Aside0.mk k2; clear k1 k2))
      all_goals
        go_wp2
        go_meet
        have hb3 := HB3.out.mono HB2.out.size
        exact ⟨_, _, rfl, rfl, KC, ⟨Nat.le_refl _⟩, ⟨(HB2.out.trans hb3).trans (KB.out.mono (Nat.le_trans HB2.out.size hb3.size))⟩⟩
      -- >
  case rest =>
  obtain ⟨P3, c3, rfl, rfl, HC3, HC4, HBx⟩ := hcut
  have hc3 := HC4.out
  clear HW2 HB2o T58 c0 c1 l3 l4 HC4 cut2 cut4
  have hmk := run_make_row' (P := Tryd.prog) 38 39 (.int .u64 0) 8 Tryd.underlying38 info39 rfl .u32 .u32 n (by omega) (by omega) wc
  have HM0 := Aside0.mk (Go.Deep.blk_alloc_new wc (.cells (madeCells #[Value.int .u64 0] n) 39))
  have HB3 := Aside0.mk ((Below.refl wc.heap.size wc).alloc (Nat.le_refl _) (.cells (madeCells #[Value.int .u64 0] n) 39))
  have HT3 := Aside0.mk (Turn.refl (fun k => k = wc.heap.size) (wc.alloc (.cells (madeCells #[Value.int .u64 0] n) 39)))
  have HZ := Aside0.mk (show (madeCells #[Value.int .u64 0] n).size = n by simp [size_madeCells])
  have HG0 := Aside0.mk HBx.out.size
  go_upto_region 32 with (fail)
  clear hmk
  go_loopg [13] n (fun kq v wr => ∃ (j : Nat) (cur : Array Value), v = .int .u32 j ∧ Aside0 (kq = n - j ∧ j ≤ n) ∧ Aside0 (wr.heap[wc.heap.size]? = some (.cells cur 39 (0, 0)) ∧ cur.size = n) ∧ Aside0 (cur.toList.take j = nums .u64 (ys.take j)) ∧ Aside0 (Turn (fun k => k = wc.heap.size) (wc.alloc (.cells (madeCells #[Value.int .u64 0] n) 39)) wr))
  case atStart => exact ⟨0, _, rfl, ⟨rfl, by omega⟩, ⟨HM0.out, HZ.out⟩, ⟨rfl⟩, HT3⟩
  case round =>
    obtain ⟨j, cur, rfl, HJ, HCUR, HTK, HTn⟩ := hrel
    have hj1 := HJ.out.2
    have HBr := Aside0.mk (HTn.out.below HB3.out HB3.out.size (fun k hk => Nat.le_of_eq hk.symm))
    rcases Nat.lt_or_ge j n with hj | hj
    ·
      -- <ROUND
      obtain ⟨vj, hvj⟩ : ∃ v, ys[j]? = some v := ⟨_, List.getElem?_eq_getElem (by rw [HNN.out]; exact hj)⟩
      have hvb := HV.out vj (List.mem_of_getElem? hvj)
      obtain ⟨AJ, cutj, hAJ⟩ := row_cut false 4 (4 * j) (4 * (j + 1)) xs f (4 * n) vj P3 c3 (HF.out.2.2 j vj hvj) (by omega) (by omega) (by rw [HN.out]; omega) hc3 .u32 .u32 (IntKind.u32.wrap (4 * (j : Int))) (IntKind.u32.wrap (4 * IntKind.u32.wrap ((j : Int) + 1))) (by rw [IntKind.wrap_u32]; omega) (by rw [IntKind.wrap_u32, IntKind.wrap_u32]; omega)
      have hv0 := hvb.1
      have hv1 := hvb.2
      have RJ := Aside0.mk (fun w (hw : Below wc.heap.size wc w) => le32_any AJ (c3 - 4 * j) vj w hv0 hv1 (hAJ w (Kd.C_below HC3.out hw)))
      have HWr := Aside0.mk (HW.out.below (HBx.out.trans (HBr.out.mono HG0.out)))
      have c1 := HWr.out.c1
      have HVJ := Aside0.mk hvj
      clear hvb hAJ hvj
      go_upto_region 34 with (fail)
      clear c0 l3 l4
      have hjn1 : (j : Int) < (n : Int) := by omega
      have hjn0 : (0 : Int) ≤ (j : Int) := by omega
      go_region_with (go_at_call 89; (with_reducible refine (RJ.out _ (by repeat (first | exact HBr.out | apply below_drew | apply pw_below_drewN))).mono ?_); rintro e w5 ⟨rfl, k1⟩; have HB5 := Aside0.mk (show Below wr.heap.size wr w5 from ⟨k1.os, k1.tape, k1.output, k1.size, k1.block⟩); clear k1; have hblk5 := blk_below HB5.out HCUR.out.1; have hfz := blk_frozen hblk5 j; have hce := (blk_cell hblk5 j).trans (Array.getElem?_eq_getElem (show j < cur.size by rw [HCUR.out.2]; exact hj)); have HK5 := Aside0.mk hblk5; clear hblk5)
      have hset := Turn.set HK5.out j (.int .u64 vj)
      rw [show IntKind.u64.wrap vj = vj by rw [IntKind.wrap_u64]; omega]
      clear hfz hce
      go_wp2
      go_roundg (n - (j + 1))
      case measure => have := HJ.out; omega
      case rel =>
        refine ⟨j + 1, _, by go_num, ⟨rfl, by omega⟩, ⟨hset.2, by simp [HCUR.out.2]⟩, ⟨?_⟩, ⟨(HTn.out.trans (Turn.fresh (S := fun k => k = wc.heap.size) HB5.out) (fun k hk => .inl hk)).trans hset.1 (fun k hk => .inl hk)⟩⟩
        have hjc : j < cur.size := by rw [HCUR.out.2]; exact hj
        have e1 : (cur.setIfInBounds j (.int .u64 vj)).toList.take (j + 1) = cur.toList.take j ++ [.int .u64 vj] := by
          rw [Array.toList_setIfInBounds, List.take_set, List.take_succ_eq_append_getElem (by simpa using hjc), List.set_append_right _ _ (by simp; omega)]
          simp [List.length_take, Nat.min_eq_left (Nat.le_of_lt hjc)]
        rw [e1, HTK.out]
        obtain ⟨hj', hj''⟩ := List.getElem?_eq_some_iff.1 HVJ.out
        rw [List.take_succ_eq_append_getElem hj', hj'']
        simp [nums]
      -- >
    · obtain rfl : n = j := by omega
      go_wp2
      go_ret2
      exact ⟨wc.heap.size, rfl, C_of_blk HCUR.out.1 HNN.out (by omega) (by rw [HTK.out, List.take_of_length_le (Nat.le_of_eq HNN.out)]), HG0.out, HBx.out.trans (HBr.out.mono HG0.out)⟩
end Go.Proofs.YtnodmobblamlgaaDoor
