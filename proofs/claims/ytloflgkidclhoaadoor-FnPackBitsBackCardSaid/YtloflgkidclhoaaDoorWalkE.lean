/- The contract of unpackBits over a bytes.Reader at the dump of this seat. -/
import Derived.Test.YtloflgkidclhoaaDoorWalkD
import Derived.Test.YtloflgkidclhoaaDoorPlain
import Derived.Deep.LoopGhost
namespace Go.Proofs.YtloflgkidclhoaaDoor
open Go.RowKit Go.Proofs.YtloflgkidclhoaaDoorW.PrintWords Go.Proofs.YtloflgkidclhoaaDoorW.PrintLast Go.Proofs.YtloflgkidclhoaaDoorW.PrintMore
set_option linter.unusedVariables false
set_option linter.unusedSimpArgs false

/-- What unpackBits leaves. -/
def UnpPost (g : Nat) (xs : List Int) (W : World) (e : Ending) (w' : World) : Prop :=
  Turn (fun k => k = g) W w' ∧ ((∃ v D, unp xs = some D ∧ e = .returned (.tuple #[v, .nilIface]) ∧ Kd.R (Kd.int .u8) 5 w' W.heap.size (fun _ => True) v D) ∨
    (unp xs = none ∧ ∃ x, e = .returned (.tuple #[.slice none 0 0, .iface 58 x])))

/-- The round's relation: i bytes are read, D is what they told. -/
structure UnpRel (W : World) (A : Option Addr) (c : Nat) (xs : List Int) (g gb : Nat) (i : Nat) (p : Int) (cur : Array Value) (D : List Int) (v : Value) (wr : World) : Prop where
  hi : i ≤ xs.length
  hb : wr.heap[g]? = some (rdr A xs.length c i p)
  hbuf : wr.heap[gb]? = some (.cells cur 5 (0, 0))
  hcur : cur.size = 128
  hR : Kd.R (Kd.int .u8) 5 wr W.heap.size (fun k => k ≠ gb ∧ k ≠ g) v D
  hT : Turn (fun k => k = g) W wr
  hD : D.length ≤ 128 * i
  hU : unp xs = (unp (xs.drop i)).map (D ++ ·)

theorem ta (a : Addr) (w : World) : (Instr.typeAssert (.iface 35 (.pointer (some a))) 38 40 true).run Tryd.prog w = .ok (.tuple #[.iface 35 (.pointer (some a)), .bool true]) w := by kernel_rfl

theorem mk128 : ∃ cur : Array Value, cur.size = 128 ∧ ∀ W : World, (Instr.makeSlice 22 (.int .i64 128) (.int .i64 128)).run Tryd.prog W = .ok (.slice (some ⟨W.heap.size, 0, none⟩) 128 128) (W.alloc (.cells cur 5)) :=
  ⟨_, by simp [size_madeCells], print_make (P := Tryd.prog) 22 5 .u8 1 Tryd.underlying22 info5 (by decide) 128 (by decide)⟩

theorem wrap8 (b : Int) (h0 : 0 ≤ b) (h1 : b ≤ 255) : IntKind.i8.wrap b = if b < 128 then b else b - 256 := by
  have e1 : IntKind.i8.bits = 8 := rfl
  have e2 : IntKind.i8.signed = true := rfl
  simp only [IntKind.wrap, e1, e2]
  by_cases h : b < 128
  · rw [if_pos h, if_neg (by simp; omega)]; omega
  · rw [if_neg h, if_pos (by simp; omega)]; omega

theorem take_set_snoc {cur : Array Value} {k : Nat} {d : Int} {kd : IntKind} (h : cur.toList.take k = nums kd (List.replicate k d)) (hk : k < cur.size) : (cur.setIfInBounds k (.int kd d)).toList.take (k + 1) = nums kd (List.replicate (k + 1) d) := by
  rw [Array.toList_setIfInBounds, List.take_set, List.take_succ_eq_append_getElem (by simpa using hk), h, List.replicate_succ', nums_append, List.set_append_right _ _ (by simp [nums])]
  simp [nums]

theorem C_len {w : World} {A : Option Addr} {m n : Nat} {xs : List Int} {k : IntKind} (e : m = n) (h : Kd.C (Kd.int k) w A n xs) : Kd.C (Kd.int k) w A m xs := by rw [e]; exact h

theorem UnpRel.step {W : World} {A : Option Addr} {c : Nat} {xs : List Int} {g gb i i' : Nat} {p p' : Int} {cur cur' : Array Value} {D E : List Int} {v v' : Value} {wr w4 w5 : World}
    (h : UnpRel W A c xs g gb i p cur D v wr) (hgb : gb = W.heap.size) (hg : g < W.heap.size) (hT : Turn (fun k => k = g ∨ k = gb) wr w4) (hb4 : w4.heap[g]? = some (rdr A xs.length c i' p')) (hbuf4 : w4.heap[gb]? = some (.cells cur' 5 (0, 0))) (hs : cur'.size = 128)
    (hR5 : Kd.R (Kd.int .u8) 5 w5 W.heap.size (fun k => k ≠ gb ∧ k ≠ g) v' (D ++ E)) (hg5 : w4.grownBy w5 v.ownBlock) (hi' : i' ≤ xs.length) (hE : E.length + 128 * i ≤ 128 * i') (hU : unp (xs.drop i) = (unp (xs.drop i')).map (E ++ ·)) :
    UnpRel W A c xs g gb i' p' cur' (D ++ E) v' w5 := by
  have hok := h.hR.1
  refine ⟨hi', ?_, ?_, hs, hR5, ?_, ?_, ?_⟩
  · exact (hg5.block g (blk_lt hb4) (fun e => (hok g e.symm).2 rfl)).trans hb4
  · exact (hg5.block gb (blk_lt hbuf4) (fun e => (hok gb e.symm).1 rfl)).trans hbuf4
  · refine (h.hT.trans hT (fun k hk => ?_)).grown hg5 (fun k hk => ?_)
    · rcases hk with hk | hk
      · exact .inl hk
      · exact .inr (by omega)
    · exact .inr (own_base (Kd.own_of_R h.hR) k hk)
  · have := h.hD; rw [List.length_append]; omega
  · rw [h.hU, hU, map_append]

set_option maxHeartbeats 3200000 in
theorem unpack_any (g : Nat) (A : Option Addr) (c : Nat) (xs : List Int) (p : Int) (a0 a2 : Addr) (W : World) (hb : W.heap[g]? = some (rdr A xs.length c 0 p)) (hwf : ∀ i, 0 ≤ rd xs i ∧ rd xs i ≤ 255)
    (hc : xs.length ≤ c) (hl : xs.length ≤ 1000000) (hr : ∀ W', Turn (fun k => k = g) W W' → Kd.C (Kd.int .u8) W' A xs.length xs)
    (hv : W.cell? ⟨0, 0, none⟩ = some (.iface 58 (.pointer (some a0)))) (hv2 : W.cell? ⟨2, 0, none⟩ = some (.iface 58 (.pointer (some a2)))) (hg : 2 < g) :
    Calls Tryd.prog 11 #[.iface 35 (.pointer (some ⟨g, 0, none⟩))] W (UnpPost g xs W) := by
  have HB := Aside0.mk hb
  have HR := Aside0.mk hr
  have HV := Aside0.mk hv
  have HV2 := Aside0.mk hv2
  have hlt : g < W.heap.size := blk_lt hb
  have HLT := Aside0.mk hlt
  clear hb hr hv hv2 hlt
  obtain ⟨cur0, hs0, hmk⟩ := mk128
  have HS0 := Aside0.mk hs0
  clear hs0
  obtain ⟨i0, hi0, hz0, hz1, hz2⟩ := info_parts info5
  have tA := ta
  have nA := nilAhead_readByte
  have mR := method_readByte
  have sE := same_err
  go_enter Tryd.func11, Tryd.ntmps11
  go_wp2_with (first | ((with_reducible refine gate_dst (N := 15) rfl ?_); refine wpList_make_own _ rfl _ _ 22 rfl W.heap.size 5 i0 (.int .u8 0) 1 Tryd.underlying22 hi0 hz0 hz1 .i64 .i64 1024 1024 rfl rfl rfl (by omega) (by decide) (by simp) ?_; intro w2 ho hg2; have HO := Aside0.mk ho; have HG := Aside0.mk hg2; clear ho hg2))
  obtain ⟨gb, hgb⟩ : ∃ gb, gb = W.heap.size := ⟨_, rfl⟩
  have hREL : Aside0 (UnpRel W A c xs g gb 0 p cur0 [] (.slice (some ⟨W.heap.size + 1, 0, none⟩) 0 1024) w2) := by
    have h1 : Turn (fun k => k = g) W w2 := ((Turn.refl _ W).alloc _).grown HG.out (by simp)
    refine ⟨⟨Nat.zero_le _, ?_, ?_, HS0.out, ⟨?_, [], by have := HO.out; simp at this; exact this, Reps.none _ _⟩, h1, by simp, by simp⟩⟩
    · exact (HG.out.block g (by have := HLT.out; simp; omega) (by simp)).trans (blk_alloc HB.out _)
    · rw [hgb]; exact (HG.out.block W.heap.size (by simp) (by simp)).trans (blk_new W _)
    · intro k hk; have := HLT.out; simp [Value.ownBlock] at hk; omega
  have hgb2 : 2 < gb := by have := HLT.out; omega
  have hneg : gb ≠ g := by have := HLT.out; omega
  have hGB := Aside0.mk hgb
  rw [← hgb]
  clear hgb HO HG hmk HS0 hi0 hz0 hz1 hz2
  go_loopg [5] xs.length (fun kq v5 wr => ∃ (i : Nat) (p : Int) (cur : Array Value) (D : List Int), Aside0 (kq = xs.length - i) ∧ Aside0 (UnpRel W A c xs g gb i p cur D v5 wr))
  case atStart => exact ⟨0, p, cur0, [], ⟨rfl⟩, by rw [hGB.out]; rw [hGB.out] at hREL; exact hREL⟩
  case round =>
    clear hREL
    obtain ⟨i, p1, cur, D, HK, HX⟩ := hrel
    have hv0 := Aside0.mk (HX.out.hT.cell HV.out (fun h => by simp at h; omega))
    have hv2 := Aside0.mk (HX.out.hT.cell HV2.out (fun h => by simp at h; omega))
    have hR1 := Aside0.mk (fun W' (hT : Turn (fun k => k = g) wr W') => HR.out W' (HX.out.hT.trans hT (fun k h => .inl h)))
    rcases Nat.lt_or_ge i xs.length with hi | hi
    · have HC := Aside0.mk (readByte_some g A c xs i p1 wr HX.out.hb hi (by omega) hR1.out)
      have hwfi := hwf i
      obtain ⟨b, hbv⟩ : ∃ b, b = rd xs i := ⟨_, rfl⟩
      rw [← hbv] at HC hwfi
      have HBV := Aside0.mk hbv
      clear hbv
      rcases Int.lt_trichotomy b 128 with hb1 | hb1 | hb1
      · obtain ⟨n, hn⟩ : ∃ n : Nat, (n : Int) = b := ⟨b.toNat, by omega⟩
        have hw : IntKind.i8.wrap b = (n : Int) := by rw [wrap8 b (by omega) (by omega), if_pos hb1]; omega
        have hn2 : n ≤ 127 := by omega
        have HN := Aside0.mk hn
        clear hn hb1 hwfi
        rcases Nat.lt_or_ge xs.length (i + n + 2) with hle | hle
        · go_wp2_with (go_at_call 35; refine HC.out.mono ?_; rintro e w3 ⟨rfl, k1⟩; have K1 := Aside0.mk k1; clear k1)
          have HF := Aside0.mk (readFull_bad g gb A c (n + 1) 128 cur xs (i + 1) (-1) a0 a2 w3 K1.out.2 (K1.out.1.blk HX.out.hbuf hneg) (by have := HX.out.hcur; omega) (by omega) (by omega) (by omega) (by omega) hc (by omega)
            (fun W' hT => hR1.out W' (K1.out.1.trans hT (fun k h => .inl h))) (K1.out.1.cell hv0.out (fun h => by simp at h; omega)) (K1.out.1.cell hv2.out (fun h => by simp at h; omega)) hg hgb2)
          refine HF.out.mono ?_
          rintro e w4 ⟨k4, x4, rfl, k2⟩
          have K2 := Aside0.mk k2
          clear k2
          go_wp2
          go_ret2
          refine ⟨(HX.out.hT.trans K1.out.1 (fun k h => .inl h)).trans K2.out (fun k h => h.elim .inl (fun h => .inr (by have := hGB.out; omega))), .inr ⟨?_, x4, rfl⟩⟩
          have hnb : (n : Int) = rd xs i := HN.out.trans HBV.out
          rw [HX.out.hU, unp_litBad xs i n hi (by omega) hnb hle]; rfl
        · go_wp2_with (go_at_call 35; refine HC.out.mono ?_; rintro e w3 ⟨rfl, k1⟩; have K1 := Aside0.mk k1; clear k1)
          have HF := Aside0.mk (readFull_ok g gb A c (n + 1) 128 cur xs (i + 1) (-1) w3 K1.out.2 (K1.out.1.blk HX.out.hbuf hneg) (by have := HX.out.hcur; omega) (by omega) (by omega) hc (by omega)
            (fun W' hT => hR1.out W' (K1.out.1.trans hT (fun k h => .inl h))))
          refine HF.out.mono ?_
          rintro e w4 ⟨rfl, k2⟩
          have K2 := Aside0.mk k2
          clear k2
          obtain ⟨cur4, hbuf4, hs4, ht4⟩ := K2.out.2.2
          have hlen : ((xs.drop (i + 1)).take (n + 1)).length = n + 1 := by rw [List.length_take, List.length_drop]; omega
          have HC4 := Aside0.mk (C_of_blk hbuf4 hlen (by omega) ht4)
          have HT4 := Aside0.mk ((K1.out.1.mono (S' := fun k => k = g ∨ k = gb) (fun k h => .inl h)).trans K2.out.1 (fun k h => .inl h))
          have HR4 := Aside0.mk (HT4.out.R HX.out.hR (fun k h e => e.elim h.2 h.1))
          have HB4 := Aside0.mk K2.out.2.1
          have HU4 := Aside0.mk hbuf4
          have HS4 := Aside0.mk (hs4.trans HX.out.hcur)
          have hsz : Aside0 (W.heap.size ≤ w4.heap.size) := ⟨Nat.le_trans HX.out.hT.size HT4.out.size⟩
          have HD := Aside0.mk HX.out.hD
          clear hbuf4 hs4 ht4
          go_wp2_with (((with_reducible refine gate_builtin (b := .append) (xs := #[.tmp 80, .tmp 83]) rfl ?_); at_builtin; go_loud (refine Kd.R_append_rows (Kd.int .u8) (w0 := w4) W.heap.size rfl (.tmp 80) (.tmp 83) 22 5 (.int .u8 0) 1 rfl Tryd.underlying22 info5 rfl (by decide) (by omega) u5 D ((xs.drop (i + 1)).take (n + 1)) _ _ _ (fun k => k ≠ gb ∧ k ≠ g) (fun _ => False) rfl rfl HR4.out HC4.out (fun _ _ h => h) (fun _ h => h.elim) (fun k hk => ⟨by have := blk_lt HU4.out; omega, by have := hsz.out; have := HLT.out; omega⟩) (Below.refl _ _) hsz.out (by have := HD.out; omega) ?_); intro v7 w5 ho hb5 hg5 hat; have HO5 := Aside0.mk ho; have HG5 := Aside0.mk hg5; clear ho hb5 hg5 hat))
          go_roundg (xs.length - (i + 1 + (n + 1)))
          case measure => rw [HK.out]; omega
          case rel => exact ⟨i + 1 + (n + 1), -1, cur4, D ++ ((xs.drop (i + 1)).take (n + 1)), ⟨rfl⟩, ⟨HX.out.step hGB.out HLT.out HT4.out HB4.out HU4.out HS4.out HO5.out HG5.out (by omega) (by omega) (unp_lit xs i n hi (by have := HN.out; have := HBV.out; omega) (HN.out.trans HBV.out) (by omega))⟩⟩
      · subst hb1
        have hw : IntKind.i8.wrap 128 = -128 := rfl
        go_wp2_with (go_at_call 35; refine HC.out.mono ?_; rintro e w3 ⟨rfl, k1⟩; have K1 := Aside0.mk k1; clear k1)
        go_roundg (xs.length - (i + 1))
        case measure => rw [HK.out]; omega
        case rel =>
          refine ⟨i + 1, -1, cur, D ++ [], ⟨rfl⟩, ⟨HX.out.step hGB.out HLT.out (K1.out.1.mono (fun k h => .inl h)) K1.out.2 (K1.out.1.blk HX.out.hbuf hneg) HX.out.hcur ?_ (World.grownBy.refl _ _) hi (by simp; omega) ?_⟩⟩
          · rw [List.append_nil]; exact K1.out.1.R HX.out.hR (fun k h => h.2)
          · rw [unp_nop xs i hi HBV.out.symm]; simp
      · obtain ⟨n, hn⟩ : ∃ n : Nat, (n : Int) = 257 - b := ⟨(257 - b).toNat, by omega⟩
        have hw : IntKind.i8.wrap b = 1 - (n : Int) := by rw [wrap8 b (by omega) (by omega), if_neg (by omega)]; omega
        have hn2 : n ≤ 128 := by omega
        have hn3 : 2 ≤ n := by omega
        have hq : ((1 - (n : Int)) == -128) = false := by rw [beq_eq_false_iff_ne]; omega
        have HN := Aside0.mk hn
        have HB1 := Aside0.mk hb1
        clear hn hb1 hwfi
        rcases Nat.lt_or_ge (i + 1) xs.length with hle | hle
        · have hr3 : ∀ {w3 : World}, Turn (fun k => k = g) wr w3 → ∀ W', Turn (fun k => k = g) w3 W' → Kd.C (Kd.int .u8) W' A xs.length xs := fun h W' hT => hR1.out W' (h.trans hT (fun k h => .inl h))
          have HR3 := Aside0.mk @hr3
          clear hr3
          go_wp2_with (first | (go_at_call 35; refine HC.out.mono ?_; rintro e w3 ⟨rfl, k1⟩; have K1 := Aside0.mk k1; clear k1 HC; have HC := Aside0.mk (readByte_some g A c xs (i + 1) (-1) w3 K1.out.2 hle (by omega) (HR3.out K1.out.1))))
          obtain ⟨d, hdv⟩ : ∃ d, d = rd xs ((i + 1 : Nat) : Int) := ⟨_, rfl⟩
          rw [← hdv] at HC
          have HDV := Aside0.mk hdv
          clear hdv
          refine HC.out.mono ?_
          rintro e w4 ⟨rfl, k2⟩
          have K2 := Aside0.mk k2
          clear k2 HC
          have HT4 := Aside0.mk ((K1.out.1.trans K2.out.1 (fun k h => .inl h)).mono (S' := fun k => k = g ∨ k = gb) (fun k h => .inl h))
          have HB4 : Aside0 (w4.heap[g]? = some (rdr A xs.length c ((i + 1 + 1 : Nat) : Int) (-1))) := ⟨by rw [Int.natCast_add]; exact K2.out.2⟩
          have HU4 := Aside0.mk (K2.out.1.blk (K1.out.1.blk HX.out.hbuf hneg) hneg)
          obtain ⟨wo, rfl⟩ : ∃ wo : World, wo = wr := ⟨_, rfl⟩
          obtain ⟨go, rfl⟩ : ∃ go : Nat, go = gk := ⟨_, rfl⟩
          go_wp2
          go_loopg [13] n (fun kq v13 wj => ∃ (k : Nat) (curj : Array Value), v13 = .int .i64 k ∧ Aside0 (k ≤ n ∧ kq = n - k) ∧ Aside0 (Turn (fun k => k = g ∨ k = gb) wo wj ∧ wj.heap[g]? = some (rdr A xs.length c ((i + 1 + 1 : Nat) : Int) (-1)) ∧ wj.heap[gb]? = some (.cells curj 5 (0, 0)) ∧ curj.size = 128 ∧ curj.toList.take k = nums .u8 (List.replicate k d)))
          case atStart => exact ⟨0, cur, rfl, ⟨Nat.zero_le _, rfl⟩, ⟨HT4.out, HB4.out, HU4.out, HX.out.hcur, by simp [nums]⟩⟩
          case round =>
            obtain ⟨k, curj, rfl, HKK, HJ⟩ := hrel
            have hkn := HKK.out.1
            have ckj : k < 128 → wr.cell? ⟨gb, k, none⟩ = some (curj.getD k undef) := fun h => by
              rw [blk_cell HJ.out.2.2.1, Array.getElem?_eq_getElem (by have := HJ.out.2.2.2.1; omega)]; simp [Array.getD, show k < curj.size by have := HJ.out.2.2.2.1; omega]
            have fkj : wr.frozen? ⟨gb, k, none⟩ = false := blk_frozen HJ.out.2.2.1 k
            rcases Nat.lt_or_ge k n with hk | hk
            · obtain ⟨u0, hu0⟩ : ∃ u0, wr.cell? ⟨gb, k, none⟩ = some u0 := ⟨_, ckj (by omega)⟩
              clear ckj
              go_wp2
              go_roundg (n - (k + 1))
              case measure => have := HKK.out.2; omega
              case rel =>
                refine ⟨k + 1, curj.setIfInBounds k (.int .u8 d), by go_num, ⟨by omega, rfl⟩, ⟨HJ.out.1.setCell (.inl (.inr rfl)) _, (Below.heap_setCell _ _ _ _ (fun h => hneg h.symm)).trans HJ.out.2.1, (Turn.set HJ.out.2.2.1 k _).2, by simp [HJ.out.2.2.2.1], ?_⟩⟩
                exact take_set_snoc HJ.out.2.2.2.2 (by have := HJ.out.2.2.2.1; omega)
            · clear ckj fkj
              obtain rfl : k = n := by omega
              have hlen : (List.replicate k d).length = k := List.length_replicate
              have HC5 := Aside0.mk (C_of_blk HJ.out.2.2.1 hlen (by omega) HJ.out.2.2.2.2)
              have HR5 := Aside0.mk (HJ.out.1.R HX.out.hR (fun k h e => e.elim h.2 h.1))
              have hsz : Aside0 (W.heap.size ≤ wr.heap.size) := ⟨Nat.le_trans HX.out.hT.size HJ.out.1.size⟩
              have HD := Aside0.mk HX.out.hD
              go_wp2_with (((with_reducible refine gate_builtin (b := .append) (xs := #[.tmp 59, .tmp 63]) rfl ?_); at_builtin; go_loud (refine Kd.R_append_rows (Kd.int .u8) (w0 := wr) W.heap.size rfl (.tmp 59) (.tmp 63) 22 5 (.int .u8 0) 1 rfl Tryd.underlying22 info5 rfl (by decide) (by omega) u5 D (List.replicate k d) _ _ _ (fun k => k ≠ gb ∧ k ≠ g) (fun _ => False) rfl rfl HR5.out (C_len (show (1 - (1 - (k : Int))).toNat = k from by omega) HC5.out) (fun _ _ h => h) (fun _ h => h.elim) (fun k hk => ⟨by have := blk_lt HJ.out.2.2.1; omega, by have := hsz.out; have := HLT.out; omega⟩) (Below.refl _ _) hsz.out (by have := HD.out; omega) ?_); intro v7 w5 ho hb5 hg5 hat; have HO5 := Aside0.mk ho; have HG5 := Aside0.mk hg5; clear ho hb5 hg5 hat))
              go_roundg (xs.length - (i + 1 + 1))
              case measure => rw [HK.out]; omega
              case rel => exact ⟨i + 1 + 1, -1, curj, D ++ List.replicate k d, ⟨rfl⟩, ⟨HX.out.step hGB.out HLT.out HJ.out.1 HJ.out.2.1 HJ.out.2.2.1 HJ.out.2.2.2.1 HO5.out HG5.out (by omega) (by rw [hlen]; omega) (by have := HB1.out; rw [HDV.out]; exact unp_run xs i k hle (by rw [← HBV.out]; exact HB1.out) (by rw [← HBV.out]; exact HN.out))⟩⟩
        · have hr3 : ∀ {w3 : World}, Turn (fun k => k = g) wr w3 → w3.cell? ⟨0, 0, none⟩ = some (.iface 58 (.pointer (some a0))) := fun h => h.cell hv0.out (fun h => by simp at h; omega)
          have HR3 := Aside0.mk @hr3
          clear hr3
          go_wp2_with (first | (go_at_call 35; refine HC.out.mono ?_; rintro e w3 ⟨rfl, k1⟩; have K1 := Aside0.mk k1; clear k1 HC; have HC := Aside0.mk (readByte_end g A xs.length c ((i : Int) + 1) (-1) (.iface 58 (.pointer (some a0))) w3 K1.out.2 (by omega) (HR3.out K1.out.1) (by omega))))
          refine HC.out.mono ?_
          rintro e w4 ⟨rfl, k2⟩
          have K2 := Aside0.mk k2
          clear k2 HC
          go_wp2
          go_ret2
          refine ⟨(HX.out.hT.trans K1.out.1 (fun k h => .inl h)).trans K2.out.1 (fun k h => .inl h), .inr ⟨?_, _, rfl⟩⟩
          rw [HX.out.hU, unp_runBad xs i (by omega) (by rw [← HBV.out]; exact HB1.out)]; rfl
    · have HC := Aside0.mk (readByte_end g A xs.length c i p1 (.iface 58 (.pointer (some a0))) wr HX.out.hb (by omega) hv0.out (by omega))
      go_wp2_with (go_at_call 35; refine HC.out.mono ?_; rintro e w3 ⟨rfl, k1⟩; have K1 := Aside0.mk k1; have v0 := K1.out.1.cell hv0.out (fun h => by simp at h; omega); clear k1)
      go_ret2
      refine ⟨HX.out.hT.trans K1.out.1 (fun k h => .inl h), .inl ⟨_, D, ?_, rfl, ?_⟩⟩
      · rw [HX.out.hU, unp_end xs i hi]; simp
      · exact Kd.R_mono (K1.out.1.R HX.out.hR (fun k h => h.2)) (fun _ _ => trivial)
end Go.Proofs.YtloflgkidclhoaaDoor
