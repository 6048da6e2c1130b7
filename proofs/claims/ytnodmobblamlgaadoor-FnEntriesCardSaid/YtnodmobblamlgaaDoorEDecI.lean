/- tiff's newDecoder. Printed by gennew.py. -/
import Derived.Test.YtnodmobblamlgaaDoorEDecT
import Derived.Laws.IdiomStrings
namespace Go.Proofs.YtnodmobblamlgaaDoor
open Go.RowKit Go.Proofs.YtnodmobblamlgaaDoorW.PrintWords Go.Proofs.YtnodmobblamlgaaDoorW.PrintLast Go.Proofs.YtnodmobblamlgaaDoorW.PrintMore
set_option linter.unusedVariables false
set_option linter.unusedSimpArgs false

theorem C_sub {W : World} {b n : Nat} {k : IntKind} {ys : List Int} (h : Kd.C (Kd.int k) W (some ⟨b, 0, none⟩) n ys) (a m : Nat) (hm : a + m ≤ n) (ha : 0 < a) : Kd.C (Kd.int k) W (some ⟨b, a, none⟩) m ((ys.drop a).take m) := by
  have hr := Kd.reads_of_C (enc := Value.int k) (d := (0 : Int)) h
  have hb := hr.2.1
  have hl := hr.1
  refine Kd.C_of_reads (d := (0 : Int)) ⟨by rw [List.length_take, List.length_drop]; omega, by omega, fun hp => ?_⟩
  obtain ⟨ad, e, hc⟩ := hr.2.2 (by omega)
  obtain rfl := Option.some.inj e
  refine ⟨_, rfl, fun j hj => ?_⟩
  have h1 := hc (a + j) (by omega)
  rw [add_plain] at h1
  have h2 : (⟨b, a, none⟩ : Addr).add j = ⟨b, a + j, none⟩ := by unfold Addr.add; split <;> simp_all
  rw [h2, h1]
  simp [List.getD_eq_getElem?_getD, List.getElem?_take, hj]
set_option maxRecDepth 100000 in
set_option maxHeartbeats 1600000 in
theorem safe_any2 (g : Nat) (A : Option Addr) (c n : Nat) (xs : List Int) (N off : Nat) (i p : Int) (W : World) (hN : xs.length = N) (hb : W.heap[g]? = some (rdr A N c i p))
    (hn1 : 1 ≤ n) (hn2 : n ≤ 100000) (hin : off + n ≤ N) (hc : N ≤ c) (hl : N ≤ 13000000) (hr : Kd.C (Kd.int .u8) W A N xs) :
    Calls Tryd.prog 42 #[.iface 71 (.pointer (some ⟨g, 0, none⟩)), .int .u64 n, .int .i64 off] W fun e w' => ∃ gb, e = .returned (.tuple #[.slice (some ⟨gb, 0, none⟩) n n, .nilIface]) ∧
      Kd.C (Kd.int .u8) w' (some ⟨gb, 0, none⟩) n ((xs.drop off).take n) ∧ Below W.heap.size W w' ∧ W.heap.size ≤ gb := by
  have hmk := run_make_row' (P := Tryd.prog) 26 5 (.int .u8 0) 1 Tryd.underlying26 info5x rfl .u64 .u64 n (by omega) (by omega)
  have hlt : (n : Int) < 10485760 := by omega
  have hge : ¬ ((n : Int) < 0) := by omega
  have nA := nilAhead_readAt
  have mR := method_readAt
  have hsz : (madeCells #[Value.int .u8 0] n).size = n := by simp [size_madeCells]
  have HRA := Aside0.mk (readAt_any g W.heap.size A c n n (madeCells #[Value.int .u8 0] n) xs N off i p (W.alloc (.cells (madeCells #[Value.int .u8 0] n) 5)) hN (blk_alloc hb _) (by simp only [World.alloc, Array.getElem?_push_size]) (by omega) (by omega) (by omega) hin hc (by omega) (Kd.C_below hr ((Below.refl _ _).alloc (Nat.le_refl _) _)))
  have HL := Aside0.mk (show ((xs.drop off).take n).length = n by rw [List.length_take, List.length_drop]; omega)
  have HA := Aside0.mk ((Below.refl W.heap.size W).alloc (Nat.le_refl _) (.cells (madeCells #[Value.int .u8 0] n) 5))
  clear hb hr hN hsz
  go_enter Tryd.func42, Tryd.ntmps42
  go_wp2_with (go_at_call 78; refine HRA.out.mono ?_; rintro e w1 ⟨rfl, k1⟩; have K1 := Aside0.mk k1; clear k1)
  go_ret2
  obtain ⟨k1, cur', k2, k3, k4⟩ := K1.out
  exact ⟨_, rfl, C_of_blk k2 HL.out (by omega) k4, k1.below HA.out HA.out.size (fun k hk => by omega), Nat.le_refl _⟩
theorem safe_lit2 (g : Nat) (A : Option Addr) (c n : Nat) (p2 : Int) (p3 : Int) (xs : List Int) (N off : Nat) (W : World) (hN : xs.length = N) (hp2 : p2 = n) (hp3 : p3 = off) (hn1 : 1 ≤ n) (hn2 : n ≤ 100000) (hin : off + n ≤ N) (hc : N ≤ c) (hl : N ≤ 13000000) (hb : W.heap[g]? = some (rdr A N c 0 (-1))) (hr : Kd.C (Kd.int .u8) W A N xs) :
    ∀ w, Below W.heap.size W w → Calls Tryd.prog 42 #[.iface 71 (.pointer (some ⟨g, 0, none⟩)), .int .u64 p2, .int .i64 p3] w fun e w' => ∃ gb, e = .returned (.tuple #[.slice (some ⟨gb, 0, none⟩) n n, .nilIface]) ∧
      Kd.C (Kd.int .u8) w' (some ⟨gb, 0, none⟩) n ((xs.drop off).take n) ∧ Below w.heap.size w w' ∧ w.heap.size ≤ gb := by
  subst hp2 hp3
  exact fun w hw => safe_any2 g A c n xs N off 0 (-1) w hN (blk_below hw hb) hn1 hn2 hin hc hl (Kd.C_below hr hw)
theorem Feat.turn {w w1 : World} {fm n : Nat} {es : List Ent} (h : Feat w fm n es) (hn : ∀ e ∈ es, 1 ≤ e.nums.length) (hT : Turn (fun k => k = fm + 1) w w1) : Feat w1 fm n es := by
  obtain ⟨f, hI, h1, h2⟩ := h
  refine ⟨f, hT.imap hI (by omega), h1, fun e he hs => ?_⟩
  obtain ⟨gb, a, b, c, d⟩ := h2 e he hs
  exact ⟨gb, a, C_at_blk b (hT.far gb (C_at_lt b (hn e he)) d), c, d⟩
/-- What newDecoder leaves. -/
def DecOut (W : World) (g : Nat) (es : List Ent) (wide high : Nat) (x3 x4 x5 : Int) (e : Ending) (w' : World) : Prop :=
  e = .returned (.tuple #[.pointer (some ⟨W.heap.size + 1, 0, none⟩), .nilIface]) ∧ ∃ (T : TypeId) (pal : Value) (mode : Int), Below W.heap.size W w' ∧ Feat w' W.heap.size es.length es ∧ PalS w' W.heap.size pal es ∧
    w'.heap[W.heap.size + 1]? = some (decB g (.iface T (.agg #[])) (kindN x3 x4 x5) (if x3 = 3 then pal else .slice none 0 0) wide high mode x5 W.heap.size pal)
theorem i5k : (Tryd.prog.info? 5).map (fun i => (i.zero, i.size, i.bytes)) = some (some (.int .u8 0), 1, 1) := by kernel_rfl

set_option maxRecDepth 100000 in
set_option maxHeartbeats 8000000 in
theorem newDec_l (W : World) (g : Nat) (A : Option Addr) (c N : Nat) (xs : List Int) (dir : Nat) (es : List Ent) (hS : Src W g A c N xs) (hD : Dir false xs dir es) (hE : ∀ e ∈ es, EntD e) (hasc : es.Pairwise (fun a b => a.tag < b.tag)) (hlen : es.length ≤ 100) (hpos : 1 ≤ es.length) (wide high : Nat) (x3 x4 x5 : Int) (ch : Nat) (hG : Cfg es wide high x3 x4 x5 ch) (hsh : TShape wide high x3 x4 x5 ch) (hp3 : x3 = 3 → ∃ e ∈ es, e.tag = 320) :
    Calls Tryd.prog 31 #[.iface 71 (.pointer (some ⟨g, 0, none⟩))] W (DecOut W g es wide high x3 x4 x5) := by
  have hfit := hD.fit
  have hd8 := hD.dir8
  have hNl := hS.len
  have hsm := hS.small
  rw [hNl] at hfit
  have HG := Aside0.mk hG
  have HSH := Aside0.mk hsh
  have HP3 := Aside0.mk hp3
  clear hG hsh hp3
  have HS := Aside0.mk hS
  have HD := Aside0.mk hD
  have HE := Aside0.mk (And.intro hE (And.intro hasc hlen))
  have HNL := Aside0.mk hNl
  clear hS hD hE hasc hNl
  have R41 := Aside0.mk (fun w => readerAt_any ⟨g, 0, none⟩ w)
  have hmm := @run_makeMap Tryd.prog
  have hmk : ∀ w, (Instr.makeSlice 26 (.int .i64 8) (.int .i64 8)).run Tryd.prog w = .ok (.slice (some ⟨w.heap.size, 0, none⟩) 8 8) (w.alloc (.cells (madeCells #[.int .u8 0] 8) 5)) := fun w => run_make_row' (P := Tryd.prog) 26 5 (.int .u8 0) 1 Tryd.underlying26 i5k rfl .i64 .i64 8 (by omega) (by omega) w
  go_enter Tryd.func31, Tryd.ntmps31
  go_upto_region 3 with (go_at_call 41; (with_reducible refine (R41.out _).mono ?_); rintro e w1 ⟨rfl, h⟩; obtain rfl := h.symm)
  clear hmm hmk R41
  have hz8 : (W.alloc (.map #[] 0)).heap.size = W.heap.size + 1 := by simp
  have hz9 : ∀ o, ((W.alloc (.map #[] 0)).alloc o).heap.size = W.heap.size + 1 + 1 := fun o => by simp
  obtain ⟨DB, hDB⟩ : ∃ o, o = decB g .nilIface 0 (.slice none 0 0) 0 0 0 0 W.heap.size (.slice none 0 0) := ⟨_, rfl⟩
  have e3 := hDB
  unfold decB at e3
  rw [← e3]
  have HD3 := Aside0.mk (show (((W.alloc (.map #[] 0)).alloc DB).alloc (.cells (madeCells #[.int .u8 0] 8) 5)).heap[W.heap.size + 1]? = some (decB g .nilIface 0 (.slice none 0 0) 0 0 0 0 W.heap.size (.slice none 0 0)) by
    rw [← hDB, ← hz8]; exact blk_alloc (Go.Deep.blk_alloc_new _ _) _)
  have HP3 := Aside0.mk (show (((W.alloc (.map #[] 0)).alloc DB).alloc (.cells (madeCells #[.int .u8 0] 8) 5)).heap[W.heap.size + 1 + 1]? = some (.cells (madeCells #[.int .u8 0] 8) 5 (0, 0)) by
    rw [← hz9 DB]; exact Go.Deep.blk_alloc_new _ _)
  have HI3 := Aside0.mk (((IMap.made W).alloc DB).alloc (.cells (madeCells #[.int .u8 0] 8) 5))
  have HB3 := Aside0.mk ((((Below.refl W.heap.size W).alloc (Nat.le_refl _) (.map #[] 0)).alloc (by rw [hz8]; omega) DB).alloc (by rw [hz9]; omega) (.cells (madeCells #[.int .u8 0] 8) 5))
  clear e3 hDB hz8 hz9
  generalize ((W.alloc (.map #[] 0)).alloc DB).alloc (.cells (madeCells #[.int .u8 0] 8) 5) = W3 at HD3 HP3 HI3 HB3 ⊢
  have HSZ := Aside0.mk (show W.heap.size + 1 + 1 < W3.heap.size from blk_lt HP3.out)
  have c0 := (blk_cell HD3.out 0).trans (show _ = some (Value.iface 71 (.pointer (some ⟨g, 0, none⟩))) from rfl)
  have nA := nilAhead_readAt
  have mR := method_readAt
  have hm8 : (madeCells #[Value.int .u8 0] 8).size = 8 := by simp [size_madeCells]
  have RA := Aside0.mk (show Calls Tryd.prog 78 #[.pointer (some ⟨g, 0, none⟩), .slice (some ⟨W.heap.size + 1 + 1, 0, none⟩) 8 8, .int .i64 0] W3 _ from readAt_any g (W.heap.size + 1 + 1) A c 8 8 (madeCells #[.int .u8 0] 8) xs N 0 0 (-1) W3 HNL.out (blk_below HB3.out HS.out.rd) HP3.out (by rw [hm8]; omega) (by omega) (by omega) (by omega) HS.out.cap (by omega) (Kd.C_below HS.out.file HB3.out))
  clear hm8
  go_upto_region 8 with (go_at_call 78; (with_reducible refine RA.out.mono ?_); rintro e W4 ⟨rfl, k1, cur, k2, k3, k4⟩; have KT := Aside0.mk k1; have KB := Aside0.mk k2; have KS := Aside0.mk k3; have KL := Aside0.mk k4; clear k1 k2 k3 k4)
  clear RA nA mR c0
  have hc8 : Kd.C (Kd.int .u8) W4 (some ⟨W.heap.size + 1 + 1, 0, none⟩) 8 (xs.take 8) := by
    have h := KL.out
    rw [List.drop_zero] at h
    exact C_of_blk KB.out (by rw [List.length_take, HNL.out]; omega) (by omega) h
  have hcv : (convert 26 9 (.slice (some ⟨W.heap.size + 1 + 1, 0, none⟩) 4 8)).run Tryd.prog W4 = .ok (.string ⟨#[73, 73, 42, 0]⟩) W4 := by
    refine run_convert_bytes_back W4 26 9 5 ⟨W.heap.size + 1 + 1, 0, none⟩ 8 [73, 73, 42, 0] Tryd.underlying26 Tryd.underlying5 Tryd.underlying9 (fun j hj => ?_)
    obtain ⟨ad, e, hc⟩ := (Kd.reads_of_C (enc := Value.int .u8) (d := (0 : Int)) hc8).2.2 (by omega)
    obtain rfl := Option.some.inj e
    have hj4 : j < 4 := hj
    rw [hc j (by omega)]
    have h4 := HD.out.head
    have hg : (xs.take 8).getD j 0 = (xs.take 4).getD j 0 := by
      rw [List.getD_eq_getElem?_getD, List.getD_eq_getElem?_getD, List.getElem?_take_of_lt (by omega), List.getElem?_take_of_lt hj4]
    rw [hg, h4]
    have : j = 0 ∨ j = 1 ∨ j = 2 ∨ j = 3 := by omega
    rcases this with rfl | rfl | rfl | rfl <;> rfl
  have HC8 := Aside0.mk hc8
  have hd4 := KT.out.blk HD3.out (by omega)
  have hfz := blk_frozen hd4 1
  have hce := (blk_cell hd4 1).trans (show _ = some Value.nilIface from rfl)
  have HD4 := Aside0.mk hd4
  clear hc8 hd4
  go_upto_region 14 with (fail)
  have hset := Turn.set HD4.out 1 (.iface 118 (.agg #[]))
  have HD5 := Aside0.mk (show (W4.setCell ⟨W.heap.size + 1, 1, none⟩ (.iface 118 (.agg #[]))).heap[W.heap.size + 1]? = some (decB g (.iface 118 (.agg #[])) 0 (.slice none 0 0) 0 0 0 0 W.heap.size (.slice none 0 0)) from hset.2)
  have HC5 := Aside0.mk (C_at_blk HC8.out (hset.1.far (W.heap.size + 1 + 1) (C_at_lt HC8.out (by omega)) (by omega)))
  have HT5 := Aside0.mk ((KT.out.mono (S' := fun k => k = W.heap.size + 1 ∨ k = W.heap.size + 1 + 1) (fun k hk => .inr hk)).trans hset.1 (fun k hk => .inl (.inl hk)))
  have HI5 := Aside0.mk (HT5.out.imap HI3.out (by omega))
  have HB5 := Aside0.mk (HT5.out.below HB3.out HB3.out.size (fun k hk => by omega))
  have HP5 := Aside0.mk (show ∃ cur5 : Array Value, (W4.setCell ⟨W.heap.size + 1, 1, none⟩ (.iface 118 (.agg #[]))).heap[W.heap.size + 1 + 1]? = some (.cells cur5 5 (0, 0)) ∧ 8 ≤ cur5.size from ⟨cur, hset.1.blk KB.out (by omega), by rw [KS.out]; simp [size_madeCells]⟩)
  clear hset hcv hfz hce KT KB KS KL HC8 HD3 HP3 HI3 HB3 HSZ HT5 HD4
  clear W3 DB
  generalize W4.setCell ⟨W.heap.size + 1, 1, none⟩ (.iface 118 (.agg #[])) = W5 at HD5 HC5 HI5 HB5 HP5 ⊢
  clear W4
  have hat4 := HD.out.at4
  have R4 := Aside0.mk (fun w (hw : Below W5.heap.size W5 w) => le32_any (some ⟨W.heap.size + 1 + 1, 4, none⟩) 4 dir w (by omega) (by omega) (Kd.C_below (by
    have h := C_sub HC5.out 4 4 (by omega) (by omega)
    rw [List.drop_take, List.take_take] at h
    rw [← hat4.2]
    exact h) hw))
  clear hat4
  have c0 := (blk_cell HD5.out 0).trans (show _ = some (Value.iface 71 (.pointer (some ⟨g, 0, none⟩))) from rfl)
  have c1 := (blk_cell HD5.out 1).trans (show _ = some (Value.iface 118 (.agg #[])) from rfl)
  have nA := nilAhead_32l
  have mR := method_32l
  have HX0 := Aside0.mk (Below.refl W5.heap.size W5)
  go_region_with (go_at_call 89; (with_reducible refine (R4.out _ (by repeat (first | exact HX0.out | apply below_drew | apply pw_below_drewN))).mono ?_); rintro e W6 ⟨rfl, k1⟩; have K1 := Aside0.mk k1; clear k1)
  have HX6 := Aside0.mk (show Below W5.heap.size W5 W6 from ⟨K1.out.os, K1.out.tape, K1.out.output, K1.out.size, K1.out.block⟩)
  clear K1 R4 nA mR c0 c1 HX0
  rw [show IntKind.i64.wrap (dir : Int) = (dir : Int) by rw [IntKind.wrap_i64]; omega]
  obtain ⟨cur5, hp5, hs5⟩ := HP5.out
  have RB := Aside0.mk (fun w (hw : Below W5.heap.size W5 w) => readAt_any g (W.heap.size + 1 + 1) A c 2 8 cur5 xs N dir 0 (-1) w HNL.out (blk_below hw (blk_below HB5.out HS.out.rd)) (blk_below hw hp5) (by omega) (by omega) (by omega) (by omega) HS.out.cap (by omega) (Kd.C_below (Kd.C_below HS.out.file HB5.out) hw))
  have HQ5 := Aside0.mk hp5
  clear hp5
  have c0 := cell_below HX6.out ((blk_cell HD5.out 0).trans (show _ = some (Value.iface 71 (.pointer (some ⟨g, 0, none⟩))) from rfl))
  have nA := nilAhead_readAt
  have mR := method_readAt
  go_upto_region 15 with (fail)
  go_region_with (go_at_call 78; (with_reducible refine (RB.out _ (by repeat (first | exact HX6.out | apply below_drew | apply pw_below_drewN))).mono ?_); rintro e W7 ⟨rfl, k1, cur7, k2, k3, k4⟩; have K1 := Aside0.mk k1; have KB := Aside0.mk k2; have KS := Aside0.mk k3; have KL := Aside0.mk k4; clear k1 k2 k3 k4)
  have HX7 := Aside0.mk ((Turn.fresh (S := fun k => k = W.heap.size + 1 + 1) HX6.out).trans (show Turn (fun k => k = W.heap.size + 1 + 1) W6 W7 from ⟨K1.out.os, K1.out.tape, K1.out.output, K1.out.size, K1.out.far⟩) (fun k hk => .inl hk))
  clear K1 RB nA mR c0 HX6
  have HD7 := Aside0.mk (HX7.out.blk HD5.out (by omega))
  have HI7 := Aside0.mk (HX7.out.imap HI5.out (by omega))
  have HB7 := Aside0.mk (HX7.out.below HB5.out HB5.out.size (fun k hk => by omega))
  have hcnt := HD.out.cnt
  have R2 := Aside0.mk (fun w (hw : Below W7.heap.size W7 w) => le16_any (some ⟨W.heap.size + 1 + 1, 0, none⟩) 8 es.length w (by omega) (by omega) (Kd.C_below (C_of_blk KB.out (nb_length _ _ _) (by omega) (by rw [KL.out, hcnt.2])) hw))
  clear hcnt KL KS KB HQ5 HP5 HC5 HX7 HD5 HI5 HB5 hs5
  have c1 := (blk_cell HD7.out 1).trans (show _ = some (Value.iface 118 (.agg #[])) from rfl)
  have nA := nilAhead_16l
  have mR := method_16l
  have HX0 := Aside0.mk (Below.refl W7.heap.size W7)
  go_upto_region 18 with (fail)
  go_region_with (go_at_call 88; (with_reducible refine (R2.out _ (by repeat (first | exact HX0.out | apply below_drew | apply pw_below_drewN))).mono ?_); rintro e W8 ⟨rfl, k1⟩; have K1 := Aside0.mk k1; clear k1)
  have HX8 := Aside0.mk (show Below W7.heap.size W7 W8 from ⟨K1.out.os, K1.out.tape, K1.out.output, K1.out.size, K1.out.block⟩)
  clear K1 R2 nA mR c1 HX0
  rw [show IntKind.i64.wrap (es.length : Int) = (es.length : Int) by rw [IntKind.wrap_i64]; omega]
  have HD8 := Aside0.mk (blk_below HX8.out HD7.out)
  have HB8 := Aside0.mk (HB7.out.trans (HX8.out.mono HB7.out.size))
  have HDS := Aside0.mk (show DecS W W8 g 118 W.heap.size es 0 from ⟨⟨_, HD8.out, fun e he => by simp at he⟩, ⟨_, HI7.out.below HX8.out, fun t ht => absurd rfl ht, fun e he => by simp at he⟩, HB8.out, Nat.le_refl _⟩)
  clear HX8 HI7 HD7 HB7
  have c0 := (blk_cell HD8.out 0).trans (show _ = some (Value.iface 71 (.pointer (some ⟨g, 0, none⟩))) from rfl)
  obtain ⟨n, hn⟩ : ∃ n, n = es.length := ⟨_, rfl⟩
  have HN := Aside0.mk hn
  rw [← hn] at hfit ⊢
  have hn100 : n ≤ 100 := by omega
  have hnp : 1 ≤ n := by have := hpos; omega
  clear hlen hpos hn
  have RS := Aside0.mk (safe_lit2 g A c (12 * n) (12 * (n : Int)) ((dir : Int) + 2) xs N (dir + 2) W8 HNL.out (by omega) (by omega) (by omega) (by omega) (by omega) HS.out.cap (by omega) (blk_below HB8.out HS.out.rd) (Kd.C_below HS.out.file HB8.out))
  go_upto_region 25 with (go_at_call 42; (with_reducible refine (RS.out _ (Below.refl _ _)).mono ?_); rintro e W9 ⟨gb, rfl, k1, k2, k3⟩; have KC := Aside0.mk k1; have KB := Aside0.mk k2; have KG := Aside0.mk k3; clear k1 k2 k3)
  have HDS9 := Aside0.mk (HDS.out.step KB.out)
  have hgb1 := C_at_lt KC.out (by omega)
  have hgb2 : gb ≠ W.heap.size ∧ gb ≠ W.heap.size + 1 := by
    have h8 := blk_lt HD8.out
    have := KG.out
    omega
  have HCK := Aside0.mk (fun W' (hT : Turn (fun k => k = W.heap.size ∨ k = W.heap.size + 1) W9 W') => C_at_blk KC.out (hT.far gb hgb1 (fun h => h.elim hgb2.1 hgb2.2)))
  clear hgb1 hgb2 KC KB KG RS HDS HB8 HD8 c0
  generalize (some ⟨gb, 0, none⟩ : Option Addr) = P9 at HCK ⊢
  clear W8 W7 W6 W5
  have HT9 := Aside0.mk (Turn.refl (fun k => k = W.heap.size ∨ k = W.heap.size + 1) W9)
  go_loopg [13, 14] n (fun kq v13 v14 wr => ∃ (k q : Nat) (last : Int), v13 = .int .i64 last ∧ v14 = .int .i64 q ∧ Aside0 (q = 12 * k) ∧ Aside0 (kq = n - k ∧ k ≤ n) ∧ Aside0 (∀ j e, k ≤ j → es[j]? = some e → last < e.tag) ∧ Aside0 (DecS W wr g 118 W.heap.size es k) ∧ Aside0 (Turn (fun k => k = W.heap.size ∨ k = W.heap.size + 1) W9 wr))
  case atStart => exact ⟨0, 0, -1, rfl, rfl, ⟨rfl⟩, ⟨rfl, by omega⟩, ⟨fun j e _ he => by have := (HE.out.1 e (List.mem_of_getElem? he)).ok.tag1; omega⟩, HDS9, HT9⟩
  case round =>
    clear HDS9 HT9
    obtain ⟨k, q, last, rfl, rfl, HQ, HK, HLAST, HDSk, HTk⟩ := hrel
    have hk1 := HK.out.2
    have hq1 := HQ.out
    rcases Nat.lt_or_ge k n with hk | hk
    · obtain ⟨ee, hee⟩ : ∃ e, es[k]? = some e := ⟨_, List.getElem?_eq_getElem (by rw [← HN.out]; exact hk)⟩
      have hlt := HLAST.out k ee (Nat.le_refl _) hee
      have hte1 := (HE.out.1 ee (List.mem_of_getElem? hee)).ok.tag1
      have hte2 := (HE.out.1 ee (List.mem_of_getElem? hee)).ok.tag2
      obtain ⟨AR, cutr, hAR⟩ := cutk_u8 P9 (12 * n) (12 * n) ((xs.drop (dir + 2)).take (12 * n)) q (q + 12) (by rw [List.length_take, List.length_drop, HNL.out]; omega) (by omega) (by omega) (Nat.le_refl _) .i64 .i64 (q : Int) ((q : Int) + 12) rfl (by omega)
      rw [show q + 12 - q = 12 by omega] at cutr hAR
      have e1 : (((xs.drop (dir + 2)).take (12 * n)).take (q + 12)).drop q = (xs.drop (dir + 2 + 12 * k)).take 12 := by
        rw [List.take_take, Nat.min_eq_left (by omega), List.drop_take, List.drop_drop, ← hq1, show q + 12 - q = 12 by omega]
      rw [e1] at hAR
      have RP := Aside0.mk (parse_step_l W wr g W.heap.size A c N xs dir es k ee AR (12 * n - q) HS.out HD.out HE.out.1 HE.out.2.1 HE.out.2.2 hee (by omega) HDSk.out (hAR wr (HCK.out wr HTk.out)))
      have HEE := Aside0.mk hee
      have hlq : (q : Int) < 12 * (n : Int) := by omega
      have hgt : ¬ (ee.tag ≤ last) := by omega
      clear hAR e1 hee hq1
      go_wp2_with (go_at_call 43; (with_reducible refine RP.out.mono ?_); rintro e W10 ⟨rfl, k1, k2⟩; have KD := Aside0.mk k1; have KT := Aside0.mk k2; clear k1 k2)
      go_roundg (n - (k + 1))
      case measure => have := HK.out; omega
      case rel => exact ⟨k + 1, q + 12, ee.tag, by go_num, by go_num, ⟨by have := HQ.out; omega⟩, ⟨rfl, by omega⟩, ⟨fun j e hj he => tags_next es HE.out.2.1 k ee HEE.out j e hj he⟩, KD, ⟨HTk.out.trans KT.out (fun k hk => .inl hk)⟩⟩
    · obtain rfl : n = k := by omega
      have hlq : ¬ ((q : Int) < 12 * (n : Int)) := by have := HQ.out; omega
      have HF := Aside0.mk (show Feat wr W.heap.size n es by have h := HDSk.out.feat; rwa [show es.take n = es by rw [HN.out, List.take_length]] at h)
      obtain ⟨pal, hd, hp⟩ := HDSk.out.dec
      have HD0 := Aside0.mk hd
      have HP0 := Aside0.mk (show PalS wr W.heap.size pal es by rwa [show es.take n = es by rw [HN.out, List.take_length]] at hp)
      have HBW := Aside0.mk HDSk.out.below
      clear hd hp HDSk HTk HLAST
      have HNN := Aside0.mk (fun e he => (HE.out.1 e he).ok.n1)
      have HPP := Aside0.mk (show x3 = 3 → ∃ pb, pal = .slice (some ⟨pb, 0, none⟩) 256 256 from fun h => by
        obtain ⟨e, he, ht⟩ := HP3.out h
        obtain ⟨pb, h1, _⟩ := HP0.out e he ht
        exact ⟨pb, h1⟩)
      go_upto_region 33 with (fail)
      refine newDec_tail _ _ (by assumption) wr g W.heap.size n 118 es pal wide high x3 x4 x5 ch HG.out HSH.out HF.out HPP.out HD0.out ?_ _ _ _ _ _ _ _ _ _ _ _ _ _ _ _ _ _ _ _ _ _ _ _ _ _ _ _ _ _ _ _ _ _ _ _ _ _ _ _ _ _ _ _ _ _ _ _ _ _ _ _ _ _ _ _ _ _ _ _ _ _ _ _ _ _ _ _ _ _ _ _ _ _ _ _ _ _ _ _ _ _ _ _ _ _ _ _ _ _ _ _ _ _ _ _ _ _ _ _ _ _ _ _ _ _ _ _ _ _ _ _ _ _ _ _ _ _ _ _ _ _ _ _ _ _ _ _ _ _ _ _ _ _ _ _ _ _ _ _ _ _ _ _ _ _ _ _ _ _ _ _ _ _ _ _ _ _ _ _ _ _ _ _ _ _ _ _ _ _ _ _ _ _ _ _ _ _ _ _ _ _ _ _ _ _ _ _ _ _ _ _ _ _ _ _ _ _ _ _ _ _ _ _ _ _ _ _ _ _ _ _ _ _ _ _ _ _ _ _ _ _ _ _ _ _ _ _ _ _ _ _ _ _ _ _ _ _ _ _ _ _ _ _ _ _ _ _ _ _ _ _ _ _ _ _ _ _ _ _ _ _ _ _ _ _ _ _ _ _ _ _ _ _ _ _ _ _ _ _ _ _ _ _ _ _ _ _ _ _ _ _ _ _ _ _ _ _ _ _ _ _ _ _ _ _ _ _ _ _ _ _ _ _ _ _ _ _ _ _ _ _ _ _ _ _ _ _ _ _ _ _ _ _ _ _ _ _ _ _ _ _ _ _ _ _ _ _ _ _ _ _ _ _
      rintro w1 ⟨t1, mode, b1⟩
      exact ⟨rfl, 118, pal, mode, t1.below HBW.out HBW.out.size (fun k hk => by omega), by rw [← HN.out]; exact HF.out.turn HNN.out t1, HP0.out.turn t1 (fun k hk => .inr hk), b1⟩

set_option maxRecDepth 100000 in
set_option maxHeartbeats 8000000 in
theorem newDec_b (W : World) (g : Nat) (A : Option Addr) (c N : Nat) (xs : List Int) (dir : Nat) (es : List Ent) (hS : Src W g A c N xs) (hD : Dir true xs dir es) (hE : ∀ e ∈ es, EntD e) (hasc : es.Pairwise (fun a b => a.tag < b.tag)) (hlen : es.length ≤ 100) (hpos : 1 ≤ es.length) (wide high : Nat) (x3 x4 x5 : Int) (ch : Nat) (hG : Cfg es wide high x3 x4 x5 ch) (hsh : TShape wide high x3 x4 x5 ch) (hp3 : x3 = 3 → ∃ e ∈ es, e.tag = 320) :
    Calls Tryd.prog 31 #[.iface 71 (.pointer (some ⟨g, 0, none⟩))] W (DecOut W g es wide high x3 x4 x5) := by
  have hfit := hD.fit
  have hd8 := hD.dir8
  have hNl := hS.len
  have hsm := hS.small
  rw [hNl] at hfit
  have HG := Aside0.mk hG
  have HSH := Aside0.mk hsh
  have HP3 := Aside0.mk hp3
  clear hG hsh hp3
  have HS := Aside0.mk hS
  have HD := Aside0.mk hD
  have HE := Aside0.mk (And.intro hE (And.intro hasc hlen))
  have HNL := Aside0.mk hNl
  clear hS hD hE hasc hNl
  have R41 := Aside0.mk (fun w => readerAt_any ⟨g, 0, none⟩ w)
  have hmm := @run_makeMap Tryd.prog
  have hmk : ∀ w, (Instr.makeSlice 26 (.int .i64 8) (.int .i64 8)).run Tryd.prog w = .ok (.slice (some ⟨w.heap.size, 0, none⟩) 8 8) (w.alloc (.cells (madeCells #[.int .u8 0] 8) 5)) := fun w => run_make_row' (P := Tryd.prog) 26 5 (.int .u8 0) 1 Tryd.underlying26 i5k rfl .i64 .i64 8 (by omega) (by omega) w
  go_enter Tryd.func31, Tryd.ntmps31
  go_upto_region 3 with (go_at_call 41; (with_reducible refine (R41.out _).mono ?_); rintro e w1 ⟨rfl, h⟩; obtain rfl := h.symm)
  clear hmm hmk R41
  have hz8 : (W.alloc (.map #[] 0)).heap.size = W.heap.size + 1 := by simp
  have hz9 : ∀ o, ((W.alloc (.map #[] 0)).alloc o).heap.size = W.heap.size + 1 + 1 := fun o => by simp
  obtain ⟨DB, hDB⟩ : ∃ o, o = decB g .nilIface 0 (.slice none 0 0) 0 0 0 0 W.heap.size (.slice none 0 0) := ⟨_, rfl⟩
  have e3 := hDB
  unfold decB at e3
  rw [← e3]
  have HD3 := Aside0.mk (show (((W.alloc (.map #[] 0)).alloc DB).alloc (.cells (madeCells #[.int .u8 0] 8) 5)).heap[W.heap.size + 1]? = some (decB g .nilIface 0 (.slice none 0 0) 0 0 0 0 W.heap.size (.slice none 0 0)) by
    rw [← hDB, ← hz8]; exact blk_alloc (Go.Deep.blk_alloc_new _ _) _)
  have HP3 := Aside0.mk (show (((W.alloc (.map #[] 0)).alloc DB).alloc (.cells (madeCells #[.int .u8 0] 8) 5)).heap[W.heap.size + 1 + 1]? = some (.cells (madeCells #[.int .u8 0] 8) 5 (0, 0)) by
    rw [← hz9 DB]; exact Go.Deep.blk_alloc_new _ _)
  have HI3 := Aside0.mk (((IMap.made W).alloc DB).alloc (.cells (madeCells #[.int .u8 0] 8) 5))
  have HB3 := Aside0.mk ((((Below.refl W.heap.size W).alloc (Nat.le_refl _) (.map #[] 0)).alloc (by rw [hz8]; omega) DB).alloc (by rw [hz9]; omega) (.cells (madeCells #[.int .u8 0] 8) 5))
  clear e3 hDB hz8 hz9
  generalize ((W.alloc (.map #[] 0)).alloc DB).alloc (.cells (madeCells #[.int .u8 0] 8) 5) = W3 at HD3 HP3 HI3 HB3 ⊢
  have HSZ := Aside0.mk (show W.heap.size + 1 + 1 < W3.heap.size from blk_lt HP3.out)
  have c0 := (blk_cell HD3.out 0).trans (show _ = some (Value.iface 71 (.pointer (some ⟨g, 0, none⟩))) from rfl)
  have nA := nilAhead_readAt
  have mR := method_readAt
  have hm8 : (madeCells #[Value.int .u8 0] 8).size = 8 := by simp [size_madeCells]
  have RA := Aside0.mk (show Calls Tryd.prog 78 #[.pointer (some ⟨g, 0, none⟩), .slice (some ⟨W.heap.size + 1 + 1, 0, none⟩) 8 8, .int .i64 0] W3 _ from readAt_any g (W.heap.size + 1 + 1) A c 8 8 (madeCells #[.int .u8 0] 8) xs N 0 0 (-1) W3 HNL.out (blk_below HB3.out HS.out.rd) HP3.out (by rw [hm8]; omega) (by omega) (by omega) (by omega) HS.out.cap (by omega) (Kd.C_below HS.out.file HB3.out))
  clear hm8
  go_upto_region 8 with (go_at_call 78; (with_reducible refine RA.out.mono ?_); rintro e W4 ⟨rfl, k1, cur, k2, k3, k4⟩; have KT := Aside0.mk k1; have KB := Aside0.mk k2; have KS := Aside0.mk k3; have KL := Aside0.mk k4; clear k1 k2 k3 k4)
  clear RA nA mR c0
  have hc8 : Kd.C (Kd.int .u8) W4 (some ⟨W.heap.size + 1 + 1, 0, none⟩) 8 (xs.take 8) := by
    have h := KL.out
    rw [List.drop_zero] at h
    exact C_of_blk KB.out (by rw [List.length_take, HNL.out]; omega) (by omega) h
  have hcv : (convert 26 9 (.slice (some ⟨W.heap.size + 1 + 1, 0, none⟩) 4 8)).run Tryd.prog W4 = .ok (.string ⟨#[77, 77, 0, 42]⟩) W4 := by
    refine run_convert_bytes_back W4 26 9 5 ⟨W.heap.size + 1 + 1, 0, none⟩ 8 [77, 77, 0, 42] Tryd.underlying26 Tryd.underlying5 Tryd.underlying9 (fun j hj => ?_)
    obtain ⟨ad, e, hc⟩ := (Kd.reads_of_C (enc := Value.int .u8) (d := (0 : Int)) hc8).2.2 (by omega)
    obtain rfl := Option.some.inj e
    have hj4 : j < 4 := hj
    rw [hc j (by omega)]
    have h4 := HD.out.head
    have hg : (xs.take 8).getD j 0 = (xs.take 4).getD j 0 := by
      rw [List.getD_eq_getElem?_getD, List.getD_eq_getElem?_getD, List.getElem?_take_of_lt (by omega), List.getElem?_take_of_lt hj4]
    rw [hg, h4]
    have : j = 0 ∨ j = 1 ∨ j = 2 ∨ j = 3 := by omega
    rcases this with rfl | rfl | rfl | rfl <;> rfl
  have HC8 := Aside0.mk hc8
  have hd4 := KT.out.blk HD3.out (by omega)
  have hfz := blk_frozen hd4 1
  have hce := (blk_cell hd4 1).trans (show _ = some Value.nilIface from rfl)
  have HD4 := Aside0.mk hd4
  clear hc8 hd4
  go_upto_region 14 with (fail)
  have hset := Turn.set HD4.out 1 (.iface 119 (.agg #[]))
  have HD5 := Aside0.mk (show (W4.setCell ⟨W.heap.size + 1, 1, none⟩ (.iface 119 (.agg #[]))).heap[W.heap.size + 1]? = some (decB g (.iface 119 (.agg #[])) 0 (.slice none 0 0) 0 0 0 0 W.heap.size (.slice none 0 0)) from hset.2)
  have HC5 := Aside0.mk (C_at_blk HC8.out (hset.1.far (W.heap.size + 1 + 1) (C_at_lt HC8.out (by omega)) (by omega)))
  have HT5 := Aside0.mk ((KT.out.mono (S' := fun k => k = W.heap.size + 1 ∨ k = W.heap.size + 1 + 1) (fun k hk => .inr hk)).trans hset.1 (fun k hk => .inl (.inl hk)))
  have HI5 := Aside0.mk (HT5.out.imap HI3.out (by omega))
  have HB5 := Aside0.mk (HT5.out.below HB3.out HB3.out.size (fun k hk => by omega))
  have HP5 := Aside0.mk (show ∃ cur5 : Array Value, (W4.setCell ⟨W.heap.size + 1, 1, none⟩ (.iface 119 (.agg #[]))).heap[W.heap.size + 1 + 1]? = some (.cells cur5 5 (0, 0)) ∧ 8 ≤ cur5.size from ⟨cur, hset.1.blk KB.out (by omega), by rw [KS.out]; simp [size_madeCells]⟩)
  clear hset hcv hfz hce KT KB KS KL HC8 HD3 HP3 HI3 HB3 HSZ HT5 HD4
  clear W3 DB
  generalize W4.setCell ⟨W.heap.size + 1, 1, none⟩ (.iface 119 (.agg #[])) = W5 at HD5 HC5 HI5 HB5 HP5 ⊢
  clear W4
  have hat4 := HD.out.at4
  have R4 := Aside0.mk (fun w (hw : Below W5.heap.size W5 w) => be32_any (some ⟨W.heap.size + 1 + 1, 4, none⟩) 4 dir w (by omega) (by omega) (Kd.C_below (by
    have h := C_sub HC5.out 4 4 (by omega) (by omega)
    rw [List.drop_take, List.take_take] at h
    rw [← hat4.2]
    exact h) hw))
  clear hat4
  have c0 := (blk_cell HD5.out 0).trans (show _ = some (Value.iface 71 (.pointer (some ⟨g, 0, none⟩))) from rfl)
  have c1 := (blk_cell HD5.out 1).trans (show _ = some (Value.iface 119 (.agg #[])) from rfl)
  have nA := nilAhead_32b
  have mR := method_32b
  have HX0 := Aside0.mk (Below.refl W5.heap.size W5)
  go_region_with (go_at_call 97; (with_reducible refine (R4.out _ (by repeat (first | exact HX0.out | apply below_drew | apply pw_below_drewN))).mono ?_); rintro e W6 ⟨rfl, k1⟩; have K1 := Aside0.mk k1; clear k1)
  have HX6 := Aside0.mk (show Below W5.heap.size W5 W6 from ⟨K1.out.os, K1.out.tape, K1.out.output, K1.out.size, K1.out.block⟩)
  clear K1 R4 nA mR c0 c1 HX0
  rw [show IntKind.i64.wrap (dir : Int) = (dir : Int) by rw [IntKind.wrap_i64]; omega]
  obtain ⟨cur5, hp5, hs5⟩ := HP5.out
  have RB := Aside0.mk (fun w (hw : Below W5.heap.size W5 w) => readAt_any g (W.heap.size + 1 + 1) A c 2 8 cur5 xs N dir 0 (-1) w HNL.out (blk_below hw (blk_below HB5.out HS.out.rd)) (blk_below hw hp5) (by omega) (by omega) (by omega) (by omega) HS.out.cap (by omega) (Kd.C_below (Kd.C_below HS.out.file HB5.out) hw))
  have HQ5 := Aside0.mk hp5
  clear hp5
  have c0 := cell_below HX6.out ((blk_cell HD5.out 0).trans (show _ = some (Value.iface 71 (.pointer (some ⟨g, 0, none⟩))) from rfl))
  have nA := nilAhead_readAt
  have mR := method_readAt
  go_upto_region 15 with (fail)
  go_region_with (go_at_call 78; (with_reducible refine (RB.out _ (by repeat (first | exact HX6.out | apply below_drew | apply pw_below_drewN))).mono ?_); rintro e W7 ⟨rfl, k1, cur7, k2, k3, k4⟩; have K1 := Aside0.mk k1; have KB := Aside0.mk k2; have KS := Aside0.mk k3; have KL := Aside0.mk k4; clear k1 k2 k3 k4)
  have HX7 := Aside0.mk ((Turn.fresh (S := fun k => k = W.heap.size + 1 + 1) HX6.out).trans (show Turn (fun k => k = W.heap.size + 1 + 1) W6 W7 from ⟨K1.out.os, K1.out.tape, K1.out.output, K1.out.size, K1.out.far⟩) (fun k hk => .inl hk))
  clear K1 RB nA mR c0 HX6
  have HD7 := Aside0.mk (HX7.out.blk HD5.out (by omega))
  have HI7 := Aside0.mk (HX7.out.imap HI5.out (by omega))
  have HB7 := Aside0.mk (HX7.out.below HB5.out HB5.out.size (fun k hk => by omega))
  have hcnt := HD.out.cnt
  have R2 := Aside0.mk (fun w (hw : Below W7.heap.size W7 w) => be16_any (some ⟨W.heap.size + 1 + 1, 0, none⟩) 8 es.length w (by omega) (by omega) (Kd.C_below (C_of_blk KB.out (nb_length _ _ _) (by omega) (by rw [KL.out, hcnt.2])) hw))
  clear hcnt KL KS KB HQ5 HP5 HC5 HX7 HD5 HI5 HB5 hs5
  have c1 := (blk_cell HD7.out 1).trans (show _ = some (Value.iface 119 (.agg #[])) from rfl)
  have nA := nilAhead_16b
  have mR := method_16b
  have HX0 := Aside0.mk (Below.refl W7.heap.size W7)
  go_upto_region 18 with (fail)
  go_region_with (go_at_call 96; (with_reducible refine (R2.out _ (by repeat (first | exact HX0.out | apply below_drew | apply pw_below_drewN))).mono ?_); rintro e W8 ⟨rfl, k1⟩; have K1 := Aside0.mk k1; clear k1)
  have HX8 := Aside0.mk (show Below W7.heap.size W7 W8 from ⟨K1.out.os, K1.out.tape, K1.out.output, K1.out.size, K1.out.block⟩)
  clear K1 R2 nA mR c1 HX0
  rw [show IntKind.i64.wrap (es.length : Int) = (es.length : Int) by rw [IntKind.wrap_i64]; omega]
  have HD8 := Aside0.mk (blk_below HX8.out HD7.out)
  have HB8 := Aside0.mk (HB7.out.trans (HX8.out.mono HB7.out.size))
  have HDS := Aside0.mk (show DecS W W8 g 119 W.heap.size es 0 from ⟨⟨_, HD8.out, fun e he => by simp at he⟩, ⟨_, HI7.out.below HX8.out, fun t ht => absurd rfl ht, fun e he => by simp at he⟩, HB8.out, Nat.le_refl _⟩)
  clear HX8 HI7 HD7 HB7
  have c0 := (blk_cell HD8.out 0).trans (show _ = some (Value.iface 71 (.pointer (some ⟨g, 0, none⟩))) from rfl)
  obtain ⟨n, hn⟩ : ∃ n, n = es.length := ⟨_, rfl⟩
  have HN := Aside0.mk hn
  rw [← hn] at hfit ⊢
  have hn100 : n ≤ 100 := by omega
  have hnp : 1 ≤ n := by have := hpos; omega
  clear hlen hpos hn
  have RS := Aside0.mk (safe_lit2 g A c (12 * n) (12 * (n : Int)) ((dir : Int) + 2) xs N (dir + 2) W8 HNL.out (by omega) (by omega) (by omega) (by omega) (by omega) HS.out.cap (by omega) (blk_below HB8.out HS.out.rd) (Kd.C_below HS.out.file HB8.out))
  go_upto_region 25 with (go_at_call 42; (with_reducible refine (RS.out _ (Below.refl _ _)).mono ?_); rintro e W9 ⟨gb, rfl, k1, k2, k3⟩; have KC := Aside0.mk k1; have KB := Aside0.mk k2; have KG := Aside0.mk k3; clear k1 k2 k3)
  have HDS9 := Aside0.mk (HDS.out.step KB.out)
  have hgb1 := C_at_lt KC.out (by omega)
  have hgb2 : gb ≠ W.heap.size ∧ gb ≠ W.heap.size + 1 := by
    have h8 := blk_lt HD8.out
    have := KG.out
    omega
  have HCK := Aside0.mk (fun W' (hT : Turn (fun k => k = W.heap.size ∨ k = W.heap.size + 1) W9 W') => C_at_blk KC.out (hT.far gb hgb1 (fun h => h.elim hgb2.1 hgb2.2)))
  clear hgb1 hgb2 KC KB KG RS HDS HB8 HD8 c0
  generalize (some ⟨gb, 0, none⟩ : Option Addr) = P9 at HCK ⊢
  clear W8 W7 W6 W5
  have HT9 := Aside0.mk (Turn.refl (fun k => k = W.heap.size ∨ k = W.heap.size + 1) W9)
  go_loopg [13, 14] n (fun kq v13 v14 wr => ∃ (k q : Nat) (last : Int), v13 = .int .i64 last ∧ v14 = .int .i64 q ∧ Aside0 (q = 12 * k) ∧ Aside0 (kq = n - k ∧ k ≤ n) ∧ Aside0 (∀ j e, k ≤ j → es[j]? = some e → last < e.tag) ∧ Aside0 (DecS W wr g 119 W.heap.size es k) ∧ Aside0 (Turn (fun k => k = W.heap.size ∨ k = W.heap.size + 1) W9 wr))
  case atStart => exact ⟨0, 0, -1, rfl, rfl, ⟨rfl⟩, ⟨rfl, by omega⟩, ⟨fun j e _ he => by have := (HE.out.1 e (List.mem_of_getElem? he)).ok.tag1; omega⟩, HDS9, HT9⟩
  case round =>
    clear HDS9 HT9
    obtain ⟨k, q, last, rfl, rfl, HQ, HK, HLAST, HDSk, HTk⟩ := hrel
    have hk1 := HK.out.2
    have hq1 := HQ.out
    rcases Nat.lt_or_ge k n with hk | hk
    · obtain ⟨ee, hee⟩ : ∃ e, es[k]? = some e := ⟨_, List.getElem?_eq_getElem (by rw [← HN.out]; exact hk)⟩
      have hlt := HLAST.out k ee (Nat.le_refl _) hee
      have hte1 := (HE.out.1 ee (List.mem_of_getElem? hee)).ok.tag1
      have hte2 := (HE.out.1 ee (List.mem_of_getElem? hee)).ok.tag2
      obtain ⟨AR, cutr, hAR⟩ := cutk_u8 P9 (12 * n) (12 * n) ((xs.drop (dir + 2)).take (12 * n)) q (q + 12) (by rw [List.length_take, List.length_drop, HNL.out]; omega) (by omega) (by omega) (Nat.le_refl _) .i64 .i64 (q : Int) ((q : Int) + 12) rfl (by omega)
      rw [show q + 12 - q = 12 by omega] at cutr hAR
      have e1 : (((xs.drop (dir + 2)).take (12 * n)).take (q + 12)).drop q = (xs.drop (dir + 2 + 12 * k)).take 12 := by
        rw [List.take_take, Nat.min_eq_left (by omega), List.drop_take, List.drop_drop, ← hq1, show q + 12 - q = 12 by omega]
      rw [e1] at hAR
      have RP := Aside0.mk (parse_step_b W wr g W.heap.size A c N xs dir es k ee AR (12 * n - q) HS.out HD.out HE.out.1 HE.out.2.1 HE.out.2.2 hee (by omega) HDSk.out (hAR wr (HCK.out wr HTk.out)))
      have HEE := Aside0.mk hee
      have hlq : (q : Int) < 12 * (n : Int) := by omega
      have hgt : ¬ (ee.tag ≤ last) := by omega
      clear hAR e1 hee hq1
      go_wp2_with (go_at_call 43; (with_reducible refine RP.out.mono ?_); rintro e W10 ⟨rfl, k1, k2⟩; have KD := Aside0.mk k1; have KT := Aside0.mk k2; clear k1 k2)
      go_roundg (n - (k + 1))
      case measure => have := HK.out; omega
      case rel => exact ⟨k + 1, q + 12, ee.tag, by go_num, by go_num, ⟨by have := HQ.out; omega⟩, ⟨rfl, by omega⟩, ⟨fun j e hj he => tags_next es HE.out.2.1 k ee HEE.out j e hj he⟩, KD, ⟨HTk.out.trans KT.out (fun k hk => .inl hk)⟩⟩
    · obtain rfl : n = k := by omega
      have hlq : ¬ ((q : Int) < 12 * (n : Int)) := by have := HQ.out; omega
      have HF := Aside0.mk (show Feat wr W.heap.size n es by have h := HDSk.out.feat; rwa [show es.take n = es by rw [HN.out, List.take_length]] at h)
      obtain ⟨pal, hd, hp⟩ := HDSk.out.dec
      have HD0 := Aside0.mk hd
      have HP0 := Aside0.mk (show PalS wr W.heap.size pal es by rwa [show es.take n = es by rw [HN.out, List.take_length]] at hp)
      have HBW := Aside0.mk HDSk.out.below
      clear hd hp HDSk HTk HLAST
      have HNN := Aside0.mk (fun e he => (HE.out.1 e he).ok.n1)
      have HPP := Aside0.mk (show x3 = 3 → ∃ pb, pal = .slice (some ⟨pb, 0, none⟩) 256 256 from fun h => by
        obtain ⟨e, he, ht⟩ := HP3.out h
        obtain ⟨pb, h1, _⟩ := HP0.out e he ht
        exact ⟨pb, h1⟩)
      go_upto_region 33 with (fail)
      refine newDec_tail _ _ (by assumption) wr g W.heap.size n 119 es pal wide high x3 x4 x5 ch HG.out HSH.out HF.out HPP.out HD0.out ?_ _ _ _ _ _ _ _ _ _ _ _ _ _ _ _ _ _ _ _ _ _ _ _ _ _ _ _ _ _ _ _ _ _ _ _ _ _ _ _ _ _ _ _ _ _ _ _ _ _ _ _ _ _ _ _ _ _ _ _ _ _ _ _ _ _ _ _ _ _ _ _ _ _ _ _ _ _ _ _ _ _ _ _ _ _ _ _ _ _ _ _ _ _ _ _ _ _ _ _ _ _ _ _ _ _ _ _ _ _ _ _ _ _ _ _ _ _ _ _ _ _ _ _ _ _ _ _ _ _ _ _ _ _ _ _ _ _ _ _ _ _ _ _ _ _ _ _ _ _ _ _ _ _ _ _ _ _ _ _ _ _ _ _ _ _ _ _ _ _ _ _ _ _ _ _ _ _ _ _ _ _ _ _ _ _ _ _ _ _ _ _ _ _ _ _ _ _ _ _ _ _ _ _ _ _ _ _ _ _ _ _ _ _ _ _ _ _ _ _ _ _ _ _ _ _ _ _ _ _ _ _ _ _ _ _ _ _ _ _ _ _ _ _ _ _ _ _ _ _ _ _ _ _ _ _ _ _ _ _ _ _ _ _ _ _ _ _ _ _ _ _ _ _ _ _ _ _ _ _ _ _ _ _ _ _ _ _ _ _ _ _ _ _ _ _ _ _ _ _ _ _ _ _ _ _ _ _ _ _ _ _ _ _ _ _ _ _ _ _ _ _ _ _ _ _ _ _ _ _ _ _ _ _ _ _ _ _ _ _ _ _ _ _ _ _ _ _ _ _ _ _ _ _
      rintro w1 ⟨t1, mode, b1⟩
      exact ⟨rfl, 119, pal, mode, t1.below HBW.out HBW.out.size (fun k hk => by omega), by rw [← HN.out]; exact HF.out.turn HNN.out t1, HP0.out.turn t1 (fun k hk => .inr hk), b1⟩
end Go.Proofs.YtnodmobblamlgaaDoor
