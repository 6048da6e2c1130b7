/- The contract of spec.Runs at the dump of this seat. -/
import Derived.Test.YtloflgkidclhoaaDoorWalkA
import Derived.Test.YtloflgkidclhoaaDoorPlain
import Derived.Test.YtloflgkidclhoaaDoorBase
import Derived.Deep.LoopGhost
namespace Go.Proofs.YtloflgkidclhoaaDoor
open Go.RowKit Go.Proofs.YtloflgkidclhoaaDoorW.PrintWords Go.Proofs.YtloflgkidclhoaaDoorW.PrintLast Go.Proofs.YtloflgkidclhoaaDoorW.PrintMore
set_option linter.unusedVariables false
set_option linter.unusedSimpArgs false

/-- What Runs leaves. -/
def RunsPost (xs : List Int) (W : World) (e : Ending) (w' : World) : Prop :=
  Below W.heap.size W w' ∧ ∃ v D b, e = .returned (.tuple #[v, .bool b]) ∧ Kd.R (Kd.int .u8) 5 w' W.heap.size (fun _ => True) v D ∧ ((b = true ∧ unp xs = some D) ∨ (b = false ∧ unp xs = none))

structure RunsRel (W : World) (xs : List Int) (i : Nat) (D : List Int) (v : Value) (wr : World) : Prop where
  hi : i ≤ xs.length
  hR : Kd.R (Kd.int .u8) 5 wr W.heap.size (fun _ => True) v D
  hB : Below W.heap.size W wr
  hD : D.length ≤ 128 * i
  hU : unp xs = (unp (xs.drop i)).map (D ++ ·)

set_option maxHeartbeats 3200000 in
set_option maxRecDepth 100000 in
theorem runs_any (A : Option Addr) (c : Nat) (xs : List Int) (W : World) (hr : Kd.C (Kd.int .u8) W A xs.length xs) (hc : xs.length ≤ c) (hl : xs.length ≤ 1000000) (hwf : ∀ i, 0 ≤ rd xs i ∧ rd xs i ≤ 255) :
    Calls Tryd.prog 5 #[.slice A xs.length c] W (RunsPost xs W) := by
  have HR := Aside0.mk hr
  clear hr
  obtain ⟨i0, hi0, _, hsz0, _⟩ := info_parts info5
  go_enter Tryd.func5, Tryd.ntmps5
  go_wp2_with (first | ((with_reducible refine gate_dst (N := 7) rfl ?_); refine Kd.R_lit (Kd.int .u8) _ 5 ?hg (N := 7) ?hd (xs := ([] : List Int)) (inner := []) (ok := fun _ => True) (okp := fun _ => True) ?hr ?hp (fun _ hk => hk) trivial (Below.refl W.heap.size W) (Nat.le_refl _) (by simp) ?_; (case hd => rfl); (case hg => rfl); (case hr => first | (go_simp; done) | (go_simp; rfl)); (case hp => exact (Reps.none _ _)); intro v7 w2 ho3 hb hg_ hnew_; have HO := Aside0.mk ho3; have HB := Aside0.mk hb; clear hg_ hnew_ ho3 hb))
  have hREL : Aside0 (RunsRel W xs 0 [] v7 w2) := ⟨⟨Nat.zero_le _, HO.out, HB.out, by simp, by simp⟩⟩
  clear HO HB
  go_loopg [4, 5] xs.length (fun kq v4 v5 wr => ∃ (i : Nat) (D : List Int), v5 = .int .i64 i ∧ Aside0 (kq = xs.length - i) ∧ Aside0 (RunsRel W xs i D v4 wr))
  case atStart => exact ⟨0, [], rfl, ⟨rfl⟩, hREL⟩
  case round =>
    clear hREL
    obtain ⟨i, D, rfl, HK, HX⟩ := hrel
    rcases Nat.lt_or_ge i xs.length with hi | hi
    · have hwfi := hwf i
      obtain ⟨ad, hA, hx⟩ := Kd.at_int HR.out (i : Int) (by omega) (by omega)
      have hcx : wr.cell? (ad.add i) = some (.int .u8 (rd xs i)) := by have := (HX.out.hB.cell (World.block_lt_of_cell? W _ hx)).trans hx; simpa using this
      clear hx
      subst hA
      obtain ⟨b, hbv⟩ : ∃ b, b = rd xs i := ⟨_, rfl⟩
      rw [← hbv] at hcx hwfi
      have HBV := Aside0.mk hbv
      clear hbv
      rcases Int.lt_trichotomy b 128 with hb1 | hb1 | hb1
      · obtain ⟨n, hn⟩ : ∃ n : Nat, b = (n : Int) := ⟨b.toNat, by omega⟩
        subst hn
        have hn2 : n ≤ 127 := by omega
        rcases Nat.lt_or_ge xs.length (i + n + 2) with hle | hle
        · go_wp2
          go_ret2
          exact ⟨HX.out.hB, _, D, _, rfl, HX.out.hR, .inr ⟨rfl, by rw [HX.out.hU, unp_litBad xs i n hi (by rw [← HBV.out]; exact hb1) HBV.out hle]; rfl⟩⟩
        · obtain ⟨A', hcut, hA', hC'⟩ := print_mid_of (P := Tryd.prog) (Value.int .u8) (0 : Int) 22 5 .i64 .i64 Tryd.underlying22 hi0 hsz0 (some ad) c xs ((i : Int) + 1) ((i : Int) + 1 + n + 1) (by omega) (by omega) (by omega) hc
          have hdr : (xs.take ((i : Int) + 1 + n + 1).toNat).drop ((i : Int) + 1).toNat = (xs.drop (i + 1)).take (n + 1) := by
            rw [show ((i : Int) + 1 + n + 1).toNat = i + 1 + (n + 1) from by omega, show ((i : Int) + 1).toNat = i + 1 from by omega, List.drop_take]
            congr 1; omega
          have hlen : ((xs.drop (i + 1)).take (n + 1)).length = n + 1 := by rw [List.length_take, List.length_drop]; omega
          rw [hdr, hlen] at hcut
          have HR' := Aside0.mk (Kd.C_of_reads (h1 := fun _ => rfl) (hA' _ (Kd.reads_of_C (Kd.C_below HR.out HX.out.hB))))
          rw [hdr, hlen] at HR'
          have HD := Aside0.mk HX.out.hD
          clear hA' hC' hdr
          have HLEN := Aside0.mk hlen
          clear hlen
          go_wp2_with (((with_reducible refine gate_builtin (b := .append) (xs := #[.tmp 30, .tmp 37]) rfl ?_); at_builtin; go_loud (refine Kd.R_append_rows (Kd.int .u8) (w0 := W) W.heap.size rfl (.tmp 30) (.tmp 37) 22 5 (.int .u8 0) 1 rfl Tryd.underlying22 info5 rfl (by decide) (by omega) u4 D ((xs.drop (i + 1)).take (n + 1)) _ _ _ (fun _ => True) (fun _ => False) rfl rfl HX.out.hR HR'.out (fun _ _ h => h) (fun _ h => h.elim) (fun k hk => trivial) HX.out.hB HX.out.hB.size (by have := HD.out; omega) ?_); intro v8 w5 ho hb5 hg5 hat; have HO5 := Aside0.mk ho; have HB5 := Aside0.mk hb5; clear ho hb5 hg5 hat))
          go_roundg (xs.length - (i + 1 + (n + 1)))
          case measure => rw [HK.out]; omega
          case rel => exact ⟨i + 1 + (n + 1), D ++ ((xs.drop (i + 1)).take (n + 1)), by go_num, ⟨rfl⟩, ⟨by omega, HO5.out, HB5.out, by rw [List.length_append, HLEN.out]; have := HD.out; omega, by rw [HX.out.hU, unp_lit xs i n hi (by rw [← HBV.out]; exact hb1) HBV.out (by omega), map_append]⟩⟩
      · subst hb1
        go_wp2
        go_roundg (xs.length - (i + 1))
        case measure => rw [HK.out]; omega
        case rel => exact ⟨i + 1, D, by go_num, ⟨rfl⟩, ⟨by omega, HX.out.hR, HX.out.hB, by have := HX.out.hD; omega, by rw [HX.out.hU, unp_nop xs i hi HBV.out.symm]⟩⟩
      · obtain ⟨n, hn⟩ : ∃ n : Nat, b = 257 - (n : Int) := ⟨(257 - b).toNat, by omega⟩
        subst hn
        have hn2 : n ≤ 128 := by omega
        have hn3 : 2 ≤ n := by omega
        rcases Nat.lt_or_ge (i + 1) xs.length with hle | hle
        · obtain ⟨ad', hA', hx'⟩ := Kd.at_int HR.out ((i + 1 : Nat) : Int) (by omega) (by omega)
          obtain rfl : ad = ad' := Option.some.inj hA'
          obtain ⟨d, hdv⟩ : ∃ d, d = rd xs ((i + 1 : Nat) : Int) := ⟨_, rfl⟩
          rw [← hdv] at hx'
          have HX' := Aside0.mk hx'
          have HDV := Aside0.mk hdv
          clear hx' hdv hA'
          obtain ⟨wo, rfl⟩ : ∃ wo : World, wo = wr := ⟨_, rfl⟩
          obtain ⟨go, rfl⟩ : ∃ go : Nat, go = gk := ⟨_, rfl⟩
          go_wp2
          go_loopg [4, 53] n (fun kq v4 v53 wj => ∃ (k : Nat), v53 = .int .i64 k ∧ Aside0 (k ≤ n ∧ kq = n - k) ∧ Aside0 (Kd.R (Kd.int .u8) 5 wj W.heap.size (fun _ => True) v4 (D ++ List.replicate k d) ∧ Below W.heap.size W wj))
          case atStart => exact ⟨0, rfl, ⟨Nat.zero_le _, rfl⟩, ⟨by simpa using HX.out.hR, HX.out.hB⟩⟩
          case round =>
            obtain ⟨k, rfl, HKK, HJ⟩ := hrel
            have hkn := HKK.out.1
            have hcj : wr.cell? ⟨ad.block, ad.off + (i + 1), none⟩ = some (.int .u8 d) := by have := (HJ.out.2.cell (World.block_lt_of_cell? W _ HX'.out)).trans HX'.out; rw [Int.toNat_natCast, Addr.add, if_neg (by omega)] at this; exact this
            rcases Nat.lt_or_ge k n with hk | hk
            · have HD := Aside0.mk HX.out.hD
              go_wp2_with (((with_reducible refine gate_builtin (b := .append) (xs := #[.tmp 55, .tmp 60]) rfl ?_); at_builtin; go_loud (refine Kd.R_append (Kd.int .u8) (w0 := W) W.heap.size rfl (.tmp 55) (.tmp 60) 22 5 (.int .u8 0) 1 rfl Tryd.underlying22 info5 rfl (by decide) (by omega) _ (D ++ List.replicate k d) d [.int .u8 d] (fun _ => True) (fun _ => False) rfl rfl rfl (fun _ hk => hk.elim) (fun _ _ => trivial) HJ.out.1 HJ.out.2 HJ.out.2.size (by have := HD.out; simp; omega) ?_); intro v8 w5 ho hb5 hg5 hat; have HO5 := Aside0.mk ho; have HB5 := Aside0.mk hb5; clear ho hb5 hg5 hat))
              go_roundg (n - (k + 1))
              case measure => have := HKK.out.2; omega
              case rel => exact ⟨k + 1, by go_num, ⟨by omega, rfl⟩, ⟨by rw [List.replicate_succ', ← List.append_assoc]; exact HO5.out, HB5.out⟩⟩
            · obtain rfl : k = n := by omega
              go_wp2
              go_roundg (xs.length - (i + 1 + 1))
              case measure => rw [HK.out]; omega
              case rel => exact ⟨i + 1 + 1, D ++ List.replicate k d, by go_num, ⟨rfl⟩, ⟨by omega, HJ.out.1, HJ.out.2, by rw [List.length_append, List.length_replicate]; have := HX.out.hD; omega, by rw [HX.out.hU, unp_run xs i k hle (by rw [← HBV.out]; omega) (by rw [← HBV.out]; omega), map_append, HDV.out]⟩⟩
        · go_wp2
          go_ret2
          exact ⟨HX.out.hB, _, D, _, rfl, HX.out.hR, .inr ⟨rfl, by rw [HX.out.hU, unp_runBad xs i (by omega) (by rw [← HBV.out]; omega)]; rfl⟩⟩
    · go_wp2
      go_ret2
      exact ⟨HX.out.hB, _, D, _, rfl, HX.out.hR, .inl ⟨rfl, by rw [HX.out.hU, unp_end xs i hi]; simp⟩⟩
end Go.Proofs.YtloflgkidclhoaaDoor
