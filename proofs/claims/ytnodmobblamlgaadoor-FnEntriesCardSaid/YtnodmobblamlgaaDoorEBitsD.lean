/- Packed: a stream of zlib; how long it is at most. -/
import Derived.Test.YtnodmobblamlgaaDoorEBitsAll
import Derived.Deep.CutRange
import Derived.Deep.DeepCutAuto
namespace Go.Proofs.YtnodmobblamlgaaDoor
open Go.RowKit Go.Proofs.YtnodmobblamlgaaDoor.PFnConfig Go.Proofs.YtnodmobblamlgaaDoorW.PrintWords Go.Proofs.YtnodmobblamlgaaDoorW.PrintLast Go.Proofs.YtnodmobblamlgaaDoorW.PrintMore
set_option linter.unusedVariables false
set_option linter.unusedSimpArgs false

/-- A new row of bytes, of at most so many. -/
def NewBytes (W : World) (bound : Nat) (e : Ending) (w' : World) : Prop :=
  ∃ v ys, e = .returned v ∧ Kd.R (Kd.int .u8) 5 w' W.heap.size (fun _ => True) v ys ∧ ys.length ≤ bound ∧ Below W.heap.size W w'

theorem Wst.mono {t : TypeId} {B : Nat} {ok ok' : Nat → Prop} {w : World} {g n : Nat} (h : Wst t B ok w g n) (hk : ∀ k, ok k → ok' k) : Wst t B ok' w g n := by
  obtain ⟨v, bs, h1, h2, h3⟩ := h
  exact ⟨v, bs, h1, Kd.R_mono h2 (fun k hk' => ⟨hk k hk'.1, hk'.2⟩), h3⟩
theorem Wst.alloc {t : TypeId} {B : Nat} {w : World} {g n : Nat} (h : Wst t B (fun _ => True) w g n) (o : Obj) : Wst t B (fun k => k ≠ w.heap.size) (w.alloc o) g n := by
  obtain ⟨v, bs, h1, h2, h3⟩ := h
  refine ⟨v, bs, (Below.heap_alloc w o g (blk_lt h1)).trans h1, ?_, h3⟩
  have h4 := Kd.R_mono (Kd.R_bound h2) (ok' := fun k => k ≠ w.heap.size ∧ k ≠ g) (fun k hk => ⟨by have := hk.2.2.1; omega, hk.1.2⟩)
  exact Kd.R_step h4 (fun k _ hlt => Below.heap_alloc w o k hlt)

theorem i5' : ∃ i, Tryd.prog.info? 5 = some i ∧ i.size = 1 := by
  obtain ⟨i, hi, h⟩ := Option.map_eq_some_iff.1 i5
  simp only [Prod.mk.injEq] at h
  exact ⟨i, hi, h.2.1⟩
/-- data[a:b]. -/
theorem cut_u8 (A : Option Addr) (c : Nat) (xs : List Int) (a b : Nat) (hab : a ≤ b) (hb : b ≤ xs.length) (hc : xs.length ≤ c) :
    ∃ A' : Option Addr, (∀ W : World, (Instr.slice 26 (.slice A xs.length c) (some (.int .i64 (a : Int))) (some (.int .i64 (b : Int))) none).run Tryd.prog W = .ok (.slice A' (b - a) (c - a)) W) ∧
      (∀ w, Kd.C (Kd.int .u8) w A xs.length xs → Kd.C (Kd.int .u8) w A' (b - a) ((xs.take b).drop a)) := by
  obtain ⟨i0, hi0, hsz0⟩ := i5'
  obtain ⟨A', h1, h2, h3⟩ := print_mid_of (P := Tryd.prog) (Value.int .u8) (0 : Int) 26 5 .i64 .i64 Tryd.underlying26 hi0 hsz0 A c xs (a : Int) (b : Int) (by omega) (by omega) (by omega) hc
  have hl : ((xs.take b).drop a).length = b - a := by rw [List.length_drop, List.length_take]; omega
  simp only [Int.toNat_natCast, hl] at h1 h2
  exact ⟨A', h1, fun w h => Kd.C_of_reads (h1 := fun _ => rfl) (h2 w (Kd.reads_of_C (h1 := fun _ => rfl) h))⟩

theorem heap_new_ (w : World) (o : Obj) : (w.alloc o).heap[w.heap.size]? = some o := by
  show (w.heap.push o)[w.heap.size]? = some o
  simp

/-- block with its list of distances, that has just been made. -/
theorem block_new {B g n bound : Nat} {W w : World} (A : Option Addr) (c : Nat) (xs : List Int) (i t : Nat) (h : Wacc B (fun _ => True) W w g n bound) (hg : g < w.heap.size) (hgB : B ≤ g) (hx : Kd.C (Kd.int .u8) w A xs.length xs) (hxc : xs.length ≤ c) (hxl : xs.length ≤ 1000000) (hxA : ∀ ad, A = some ad → ad.block < B) (hit : i ≤ t) (htl : t ≤ xs.length) (hn : n + bound ≤ 90000000) :
    Calls Tryd.prog 38 #[.pointer (some ⟨g, 0, none⟩), .slice A xs.length c, .int .i64 i, .int .i64 t, .slice (some ⟨w.heap.size, 0, none⟩) 10 10]
      (w.alloc (.cells #[.int .i64 1, .int .i64 2, .int .i64 3, .int .i64 4, .int .i64 6, .int .i64 8, .int .i64 12, .int .i64 17, .int .i64 33, .int .i64 65] 3)) (fun e w' => e = .returned (.tuple #[]) ∧ Wacc B (fun _ => True) W w' g n (bound + (32 * (t - i) + 9))) := by
  obtain ⟨⟨n5, a5, b5, st5⟩, t5, hB, hf⟩ := h
  have hsz : B ≤ w.heap.size := Nat.le_trans hB t5.size
  refine (block_any B (fun k => k ≠ w.heap.size) g n5 A (some ⟨w.heap.size, 0, none⟩) c 10 xs [1, 2, 3, 4, 6, 8, 12, 17, 33, 65] i t _ (st5.alloc _) ?_ ?_ (by omega) ?_ hxc hxl ?_ ?_ (by simp) (by simp) ?_ ?_ hit htl).mono ?_
  · simp; omega
  · intro k hk; simp at hk; omega
  · exact Kd.C_below hx ((Below.refl _ _).alloc (Nat.le_refl _) _)
  · intro ad he; have := hxA ad he; omega
  · exact C_of_blk (heap_new_ w _) rfl (by simp) rfl
  · intro ad he
    injection he with he
    subst he
    simp
    omega
  · intro k
    unfold rd
    rcases hk : k.toNat with _ | _ | _ | _ | _ | _ | _ | _ | _ | _ | m <;> simp [List.getD]
  · rintro e w' ⟨rfl, ⟨n2, a2, b2, st2⟩, t2⟩
    refine ⟨rfl, ⟨n2, by omega, by omega, st2.mono (fun _ _ => trivial)⟩, ?_, hB, hf⟩
    have ta : Turn (fun k => k = g ∨ (True ∧ B ≤ k)) W (w.alloc (.cells #[.int .i64 1, .int .i64 2, .int .i64 3, .int .i64 4, .int .i64 6, .int .i64 8, .int .i64 12, .int .i64 17, .int .i64 33, .int .i64 65] 3)) := t5.alloc _
    exact ta.trans t2 (fun k hk => .inl (hk.imp id (fun h => ⟨trivial, h.2⟩)))

theorem Adler_l (xs : List Int) : ∀ (m : Nat) (a b i : Int), 0 ≤ i → i + m = xs.length → xs.length ≤ 1000000 → ∃ r, spec_Adler.l0 (m + 1) a b xs (xs.length : Int) i = some r := by
  intro m
  induction m with
  | zero =>
    intro a b i h0 h1 _
    unfold spec_Adler.l0
    rw [if_neg (by omega)]
    exact ⟨_, rfl⟩
  | succ m ih =>
    intro a b i h0 h1 hx
    unfold spec_Adler.l0
    rw [if_pos (by omega), if_pos h0, if_pos (by omega)]
    rw [w64s (x := i + 1) (by omega) (by omega)]
    exact ih _ _ _ (by omega) (by omega) hx
theorem Adler_any (xs : List Int) (hx : xs.length ≤ 1000000) : ∃ r, spec_Adler.f (xs.length + 1) xs = some r := Adler_l xs xs.length 1 0 0 (by omega) (by omega) hx

/-- A row of bytes that has just been made. -/
theorem R_new (w : World) (B : Nat) (xs : List Int) (hB : B ≤ w.heap.size) (hm : xs.length ≤ 9223372036854775807) :
    Kd.R (Kd.int .u8) 5 (w.alloc (.cells (nums .u8 xs).toArray 5)) B (fun _ => True) (.slice (some ⟨w.heap.size, 0, none⟩) xs.length xs.length) xs := by
  refine Kd.R_of_own ?_ (fun _ _ => trivial)
  have h := World.ownsRow_lit (base := B) (e := 5) (size := 1) w (nums .u8 xs).toArray xs.length hB (by simpa [maxLen] using hm) (by simp [nums])
  simpa [nums, encs] using h

set_option maxHeartbeats 3200000 in
set_option maxRecDepth 100000 in
theorem Packed_any (A : Option Addr) (c : Nat) (xs : List Int) (W : World) (hx : Kd.C (Kd.int .u8) W A xs.length xs) (hxc : xs.length ≤ c) (hxl : xs.length ≤ 20000) (hx0 : 0 < xs.length) :
    Calls Tryd.prog 28 #[.slice A xs.length c, .int .i64 51, .int .i64 1] W (NewBytes W 300000) := by
  have HX := Aside0.mk hx
  have hAb : ∀ ad, A = some ad → ad.block < W.heap.size := by
    intro ad he
    obtain ⟨ad', he', hc⟩ := Kd.at_int hx 0 (by omega) (by omega)
    rw [he] at he'
    injection he' with he'
    subst he'
    have := World.block_lt_of_cell? W _ hc
    rwa [add_block] at this
  have HAB := Aside0.mk hAb
  clear hx hAb
  go_enter Tryd.func28, Tryd.ntmps28
  go_wp2
  have HW : Aside0 (Wst 109 W.heap.size (fun _ => True) (W.alloc (.cells #[.slice none 0 0, .int .i64 0] 109)) W.heap.size 0) :=
    ⟨_, [], (heap_new_ W _), Kd.R_nil _ _ _ _ _, rfl⟩
  have HB0 := Aside0.mk ((Below.refl W.heap.size W).alloc (Nat.le_refl _) (.cells #[.slice none 0 0, .int .i64 0] 109))
  go_loopg [8, 9, 10, 12] (xs.length + 1) (fun kq v8 v9 v10 v12 wr => ∃ (i : Nat), v8 = .int .i64 i ∧ Aside0 (kq = xs.length + 1 - i ∧ i ≤ xs.length + 51) ∧ Aside0 (Below W.heap.size W wr ∧ ∃ n, n ≤ 100 * i ∧ Wst 109 W.heap.size (fun _ => True) wr W.heap.size n))
  case atStart => exact ⟨0, rfl, ⟨rfl, by omega⟩, ⟨HB0.out, 0, Nat.zero_le _, HW.out⟩⟩
  case round =>
    obtain ⟨i, rfl, HK, HX1⟩ := hrel
    obtain ⟨n, hn, hst⟩ := HX1.out.2
    have HB := Aside0.mk HX1.out.1
    have HA := Aside0.mk (Wacc.start hst HB.out.size (fun _ _ => trivial))
    have HC := Aside0.mk (Kd.C_below HX.out HB.out)
    have hi51 := HK.out.2
    clear hst HX1
    by_cases hgo : i = 0 ∨ i < xs.length
    · have hgo' : i ≤ xs.length := by omega
      go_upto_region 4 with (fail)
      go_cut [25] from 18 to 93 (fun v wx => v = .bool true ∧ wr = wx)
      case first =>
        by_cases h0 : i = 0
        · subst h0
          go_wp2_with (fail)
          go_meet
          exact ⟨rfl, rfl⟩
        · have h1 : i < xs.length := by omega
          go_wp2_with (fail)
          go_meet
          exact ⟨rfl, rfl⟩
      case rest =>
        obtain ⟨rfl, rfl⟩ := hcut
        go_upto_region 6 with (fail)
        go_cut [9] from 18 to 93 (fun v wx => ∃ t : Nat, v = .int .i64 t ∧ Aside0 (i ≤ t ∧ t ≤ i + 51 ∧ t ≤ xs.length) ∧ wr = wx)
        case first =>
          by_cases h0 : i + 51 ≤ xs.length
          · go_wp2_with (fail)
            go_meet
            exact ⟨i + 51, by go_num, ⟨by omega, by omega, by omega⟩, rfl⟩
          · go_wp2_with (fail)
            go_meet
            exact ⟨xs.length, by go_num, ⟨by omega, by omega, by omega⟩, rfl⟩
        case rest =>
          obtain ⟨t, rfl, HT, rfl⟩ := hcut
          go_upto_if 38 with (fail)
          go_cut [10] from 18 to 93 (fun v wx => ∃ l : Int, v = .int .i64 l ∧ wr = wx)
          case first =>
            go_wp2_with (fail)
            all_goals (go_meet; exact ⟨_, rfl, rfl⟩)
          case rest =>
            obtain ⟨l, rfl, rfl⟩ := hcut
            go_upto_region 11 with (go_at_call 36; refine (HA.out.one _ (by omega)).mono ?_; rintro e w4 ⟨rfl, k1⟩; have K2 := Aside0.mk k1; clear k1)
            go_cut [49] from 18 to 93 (fun v wx => ∃ b : Bool, v = .bool b ∧ Aside0 (Wacc W.heap.size (fun _ => True) wr wx W.heap.size n (0 + 1)))
            case first =>
              go_wp2_with (fail)
              go_meet
              exact ⟨_, rfl, K2⟩
            case rest =>
              obtain ⟨b, rfl, K2⟩ := hcut
              have hit := HT.out.1
              have htl := HT.out.2.2
              have hti := HT.out.2.1
              have HX0 := Aside0.mk HC.out
              cases b
              · obtain ⟨A', hcut, hA'⟩ := cut_u8 A c xs i t HT.out.1 HT.out.2.2 hxc
                have HA' := Aside0.mk hA'
                clear hA'
                go_upto_region 15 with (go_at_call 37; (refine (K2.out.many _ 2 (by omega) (by omega)).mono ?_); rintro e w5 ⟨rfl, k1⟩; have K3 := Aside0.mk k1; clear k1)
                obtain ⟨n5, a5, b5, st5⟩ := K3.out.st
                obtain ⟨v5, bs5, hb5, _, _⟩ := st5
                have d1 : w5.cell? ⟨W.heap.size, 1, none⟩ = some (.int .i64 n5) := (blk_cell hb5 1).trans rfl
                clear hb5
                obtain ⟨m, hm, hm7⟩ : ∃ m : Nat, (8 - (n5 : Int) % 8) % 8 = (m : Int) ∧ m ≤ 7 := ⟨((8 - (n5 : Int) % 8) % 8).toNat, by omega, by omega⟩
                go_upto_region 16 with (go_at_call 37; (refine (K3.out.many _ m (by omega) (by omega)).mono ?_); rintro e w6 ⟨rfl, k1⟩; have K4 := Aside0.mk (k1.more (show _ ≤ 10 by omega)); clear k1)
                clear hm d1
                go_upto_region 18 with (first | (fail_if_success (have := K5.out)); (go_at_call 37; (refine (K4.out.many _ 16 (by omega) (by omega)).mono ?_); rintro e w7 ⟨rfl, k1⟩; have K5 := Aside0.mk k1; clear k1) | (go_at_call 37; (refine (K5.out.many _ 16 (by omega) (by omega)).mono ?_); rintro e w8 ⟨rfl, k1⟩; have K6 := Aside0.mk (k1.more (show _ ≤ 42 by omega)); clear k1))
                clear K5 K4 K3 K2
                go_wp2
                obtain ⟨wo, rfl⟩ : ∃ wo : World, wo = wr := ⟨_, rfl⟩
                obtain ⟨go, rfl⟩ : ∃ go : Nat, go = gk := ⟨_, rfl⟩
                go_loopg [12, 85] (t - i) (fun kq v12 v85 wr => ∃ j : Nat, v85 = .int .i64 j ∧ Aside0 (kq = t - i - j ∧ j ≤ t - i) ∧ Aside0 (Wacc W.heap.size (fun _ => True) wo wr W.heap.size n (42 + 8 * j)))
                case atStart => exact ⟨0, rfl, ⟨by omega, by omega⟩, K6⟩
                case round =>
                  obtain ⟨j, rfl, HJ, K7⟩ := hrel
                  have hjl := HJ.out.2
                  rcases Nat.lt_or_ge j (t - i) with hj | hj
                  · have HA2 := Aside0.mk (HA'.out _ (Kd.C_below HX.out (Turn.below HB.out HB.out.size K7.out.turn (fun k hk => hk.elim (fun e => by omega) (fun h => h.2)))))
                    obtain ⟨ad, hA, hc⟩ := Kd.at_int HA2.out (j : Int) (by omega) (by omega)
                    subst hA
                    simp only [Int.toNat_natCast] at hc
                    clear HA2
                    go_wp2_with (go_at_call 37; (refine (K7.out.many _ 8 (by omega) (by omega)).mono ?_); rintro e w5 ⟨rfl, k1⟩; have K8 := Aside0.mk k1; clear k1)
                    go_roundg (t - i - (j + 1))
                    case measure => have := HJ.out; omega
                    case rel => exact ⟨j + 1, by go_num, ⟨rfl, by omega⟩, ⟨K8.out.more (by omega)⟩⟩
                  · obtain rfl : j = t - i := by omega
                    go_wp2
                    go_roundg (xs.length + 1 - (i + 51))
                    case measure => have := HK.out; omega
                    case rel =>
                      obtain ⟨n6, a6, b6, st6⟩ := K7.out.st
                      exact ⟨i + 51, by go_num, ⟨rfl, by omega⟩, ⟨Turn.below HB.out HB.out.size K7.out.turn (fun k hk => hk.elim (fun e => by omega) (fun h => h.2)), n6, by omega, st6⟩⟩
              · have K2W := Aside0.mk K2.out.turn
                go_wp2_with (first | (go_at_call 37; (refine (K2.out.many _ 2 (by omega) (by omega)).mono ?_); rintro e w5 ⟨rfl, k1⟩; have K3 := Aside0.mk k1; clear k1) | (go_at_call 38; (refine (block_new A c xs i t K3.out (by obtain ⟨_, _, _, st⟩ := K3.out.st; obtain ⟨_, _, h, _⟩ := st; exact blk_lt h) (by omega) (Kd.C_below HX.out (Turn.below HB.out HB.out.size K3.out.turn (fun k hk => hk.elim (fun e => by omega) (fun h => h.2)))) hxc (by omega) HAB.out hit htl (by omega)).mono ?_); rintro e w6 ⟨rfl, k1⟩; have K4 := Aside0.mk k1; clear k1))
                go_roundg (xs.length + 1 - (i + 51))
                case measure => have := HK.out; omega
                case rel =>
                  obtain ⟨n6, a6, b6, st6⟩ := K4.out.st
                  exact ⟨i + 51, by go_num, ⟨rfl, by omega⟩, ⟨Turn.below HB.out HB.out.size K4.out.turn (fun k hk => hk.elim (fun e => by omega) (fun h => h.2)), n6, by omega, st6⟩⟩
    · have h1 : ¬ i = 0 := by omega
      have h2 : ¬ i < xs.length := by omega
      go_upto_region 4 with (fail)
      go_cut [25] from 18 to 93 (fun v wx => v = .bool false ∧ wr = wx)
      case first =>
        go_wp2_with (fail)
        go_meet
        exact ⟨congrArg Value.bool (by simp; omega), rfl⟩
      case rest =>
        obtain ⟨rfl, rfl⟩ := hcut
        go_upto_region 23 with (fail)
        obtain ⟨n5, a5, b5, st5⟩ := HA.out.st
        obtain ⟨v5, bs5, hb5, hr5, hl5⟩ := st5
        obtain ⟨A5, c5, rfl, hc5, hC5⟩ := Kd.R_reads hr5
        have d0 : wr.cell? ⟨W.heap.size, 0, none⟩ = some (.slice A5 bs5.length c5) := (blk_cell hb5 0).trans rfl
        have HC5 := Aside0.mk hC5
        have HL5 := Aside0.mk hl5
        obtain ⟨r, hr⟩ := Adler_any xs (by omega)
        have HAd := Aside0.mk hr
        clear hb5 hr5 hC5 hl5 hr
        have hb6 : Below W.heap.size W (wr.alloc (.cells #[.int .u8 120, .int .u8 1] 5)) := HB.out.alloc HB.out.size _
        have d6 : (wr.alloc (.cells #[.int .u8 120, .int .u8 1] 5)).cell? ⟨W.heap.size, 0, none⟩ = some (.slice A5 bs5.length c5) :=
          (World.cell?_of_block (Below.heap_alloc wr _ _ (World.block_lt_of_cell? wr _ d0))).trans d0
        have ho6 : Kd.R (Kd.int .u8) 5 (wr.alloc (.cells #[.int .u8 120, .int .u8 1] 5)) W.heap.size (fun _ => True) (.slice (some ⟨wr.heap.size, 0, none⟩) 2 2) [120, 1] :=
          R_new wr W.heap.size [120, 1] HB.out.size (by simp)
        have hc6 : Kd.C (Kd.int .u8) (wr.alloc (.cells #[.int .u8 120, .int .u8 1] 5)) A5 bs5.length bs5 := Kd.C_below HC5.out ((Below.refl _ _).alloc (Nat.le_refl _) _)
        have HO := Aside0.mk ho6
        have HB6 := Aside0.mk hb6
        have HC6 := Aside0.mk hc6
        clear ho6 hb6 hc6
        go_wp2_with (first | ((with_reducible refine gate_builtin (b := .append) (xs := #[.tmp 94, .tmp 98]) rfl ?_); at_builtin; go_loud (refine Kd.R_append_rows (Kd.int .u8) (w0 := W) W.heap.size rfl (.tmp 94) (.tmp 98) 26 5 (.int .u8 0) 1 rfl Tryd.underlying26 i5 rfl (by decide) (by omega) _ [120, 1] bs5 _ _ _ (fun _ => True) (fun _ => False) rfl rfl HO.out HC6.out (fun _ _ h => h) (fun _ h => h.elim) (fun k hk => trivial) HB6.out HB6.out.size (by have := HL5.out; simp; omega) ?_); intro v7 w7 ho hb7 hg7 hat; have HO7 := Aside0.mk ho; have HB7 := Aside0.mk hb7; clear ho hb7 hg7 hat) | (go_at_call 40; (refine (spec_Adler.calls _ A c xs r w7 (Kd.C_below HX.out HB7.out) hxc HAd.out).mono ?_); rintro e w8 ⟨rfl, k1⟩; have HO8 := Aside0.mk (Kd.R_step HO7.out (fun k _ hlt => k1.below.block k hlt)); have HB8 := Aside0.mk (HB7.out.trans (k1.below.mono HB7.out.size)); clear k1) | (go_at_call 39; (refine (spec_Four.calls r _ w8 rfl).mono ?_); rintro e w9 ⟨v9, rfl, k1, k2⟩; obtain ⟨A9, c9, rfl, hc9, hC9⟩ := Kd.R_reads k1; have HC9 := Aside0.mk hC9; have HO9 := Aside0.mk (Kd.R_below HO8.out k2); have HB9 := Aside0.mk (HB8.out.trans (k2.mono HB8.out.size)); clear k1 k2 hC9 hc9) | ((with_reducible refine gate_builtin (b := .append) (xs := #[.tmp 99, .tmp 102]) rfl ?_); at_builtin; go_loud (refine Kd.R_append_rows (Kd.int .u8) (w0 := W) W.heap.size rfl (.tmp 99) (.tmp 102) 26 5 (.int .u8 0) 1 rfl Tryd.underlying26 i5 rfl (by decide) (by omega) _ ([120, 1] ++ bs5) _ _ _ _ (fun _ => True) (fun _ => False) rfl rfl HO9.out HC9.out (fun _ _ h => h) (fun _ h => h.elim) (fun k hk => trivial) HB9.out HB9.out.size (by have := HL5.out; simp; omega) ?_); intro v10 w10 ho hb7 hg7 hat; have HO10 := Aside0.mk ho; have HB10 := Aside0.mk hb7; clear ho hb7 hg7 hat))
        go_ret
        exact ⟨_, _, rfl, HO10.out, by have := HL5.out; simp; omega, HB10.out⟩
end Go.Proofs.YtnodmobblamlgaaDoor
