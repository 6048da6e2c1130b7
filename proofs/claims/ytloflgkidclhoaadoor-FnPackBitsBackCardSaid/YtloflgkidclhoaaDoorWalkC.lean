/- Contracts of io.ReadAtLeast and io.ReadFull over a bytes.Reader at the dump of this seat. -/
import Derived.Test.YtloflgkidclhoaaDoorWalkB
import Derived.Deep.RegionWith
import Derived.Deep.RegionHeld3
namespace Go.Proofs.YtloflgkidclhoaaDoor
open Go.RowKit Go.Proofs.YtloflgkidclhoaaDoorW.PrintWords Go.Proofs.YtloflgkidclhoaaDoorW.PrintLast Go.Proofs.YtloflgkidclhoaaDoorW.PrintMore
set_option linter.unusedVariables false
set_option linter.unusedSimpArgs false

theorem nilAhead_read (a : Addr) (w : World) : (nilAhead 187 35 (.pointer (some a)) "Read").run Tryd.prog w = .ok (some false) w := by kernel_rfl
theorem method_read (a : Addr) (w : World) : (method 187 35 (.pointer (some a)) "Read").run Tryd.prog w = .ok (34, .pointer (some a)) w := by kernel_rfl
theorem nilAhead_readByte (a : Addr) (w : World) : (nilAhead 187 35 (.pointer (some a)) "ReadByte").run Tryd.prog w = .ok (some false) w := by kernel_rfl
theorem method_readByte (a : Addr) (w : World) : (method 187 35 (.pointer (some a)) "ReadByte").run Tryd.prog w = .ok (35, .pointer (some a)) w := by kernel_rfl

set_option maxHeartbeats 1600000 in
theorem atLeast_ok (g gb : Nat) (A : Option Addr) (c n cap : Nat) (cur : Array Value) (xs : List Int) (i : Nat) (p : Int) (W : World) (hb : W.heap[g]? = some (rdr A xs.length c i p))
    (hbuf : W.heap[gb]? = some (.cells cur 5 (0, 0))) (hn : n ≤ cur.size) (hn1 : 1 ≤ n)
    (hi : i + n ≤ xs.length) (hc : xs.length ≤ c) (hl : xs.length ≤ 140737488355328) (hr : ∀ W', Turn (fun k => k = g) W W' → Kd.C (Kd.int .u8) W' A xs.length xs) :
    Calls Tryd.prog 16 #[.iface 35 (.pointer (some ⟨g, 0, none⟩)), .slice (some ⟨gb, 0, none⟩) n cap, .int .i64 n] W fun e w' => e = .returned (.tuple #[.int .i64 n, .nilIface]) ∧
      Turn (fun k => k = g ∨ k = gb) W w' ∧ w'.heap[g]? = some (rdr A xs.length c ((i + n : Nat) : Int) (-1)) ∧
      ∃ cur', w'.heap[gb]? = some (.cells cur' 5 (0, 0)) ∧ cur'.size = cur.size ∧ cur'.toList.take n = nums .u8 ((xs.drop i).take n) := by
  have HB := Aside0.mk hb
  have HBUF := Aside0.mk hbuf
  have HR := Aside0.mk hr
  clear hb hbuf hr
  have nA := nilAhead_read
  have mR := method_read
  go_enter Tryd.func16, Tryd.ntmps16
  go_wp2
  refine wp_loop_rounds 2 ?_
  rw [rounds_succ]
  go_wp2
  have HR' := Aside0.mk (read_some g gb A c n cap cur xs i p W.drew HB.out HBUF.out hn (by omega) hc hl (fun W' hT => HR.out W' ⟨hT.os, hT.tape, hT.output, hT.size, hT.far⟩))
  go_region_with (go_at_call 34; refine HR'.out.mono ?_; rintro e w1 ⟨rfl, k1⟩; have K1 := Aside0.mk k1; clear k1)
  have hmn : min (xs.length - i) n = n := by omega
  have HM := Aside0.mk hmn
  rw [hmn] at K1 ⊢
  clear hmn
  go_wp2
  rw [rounds_succ]
  go_wp2
  go_ret2
  refine ⟨rfl, ⟨K1.out.1.os, K1.out.1.tape, K1.out.1.output, K1.out.1.size, K1.out.1.far⟩, K1.out.2.1, ?_⟩
  obtain ⟨cur', h1, h2, h3⟩ := K1.out.2.2
  refine ⟨cur', h1, h2, ?_⟩
  rw [h3, List.take_append_of_le_length (by rw [nums_length, List.length_take, List.length_drop]; omega), List.take_of_length_le (by rw [nums_length, List.length_take]; omega)]

theorem comp58 : (Tryd.prog.info? 58).map (fun i => i.comparable) = some true := by kernel_rfl
theorem has79 : (Tryd.prog.info? 79).map (fun i => i.comparable) = some true := by kernel_rfl
theorem same_err (a : Addr) (w : World) : (binOp .eql 30 (.iface 58 (.pointer (some a))) (.iface 58 (.pointer (some a)))).run Tryd.prog w = .ok (.bool true) w := by
  obtain ⟨i, hi, hc⟩ := Option.map_eq_some_iff.1 comp58
  obtain ⟨j, hj, _⟩ := Option.map_eq_some_iff.1 has79
  exact run_eql_iface_ptr_same w a Tryd.underlying30 Tryd.underlying58 hi hc hj

set_option maxHeartbeats 1600000 in
theorem atLeast_none (g gb : Nat) (A : Option Addr) (c n cap m : Nat) (i p : Int) (a0 : Addr) (W : World) (hb : W.heap[g]? = some (rdr A m c i p))
    (hn1 : 1 ≤ n) (hcap : n ≤ cap) (hcap2 : cap ≤ 9223372036854775807) (hi : (m : Int) ≤ i) (hv : W.cell? ⟨0, 0, none⟩ = some (.iface 58 (.pointer (some a0)))) :
    Calls Tryd.prog 16 #[.iface 35 (.pointer (some ⟨g, 0, none⟩)), .slice (some ⟨gb, 0, none⟩) n cap, .int .i64 n] W fun e w' => e = .returned (.tuple #[.int .i64 0, .iface 58 (.pointer (some a0))]) ∧
      Turn (fun k => k = g) W w' := by
  have HB := Aside0.mk hb
  have HV := Aside0.mk hv
  clear hb hv
  have nA := nilAhead_read
  have mR := method_read
  go_enter Tryd.func16, Tryd.ntmps16
  go_wp2
  refine wp_loop_rounds 2 ?_
  rw [rounds_succ]
  go_wp2
  have HR' := Aside0.mk (read_end g A (some ⟨gb, 0, none⟩) m c n cap i p (.iface 58 (.pointer (some a0))) W.drew HB.out hi HV.out)
  go_region_with (go_at_call 34; refine HR'.out.mono ?_; rintro e w1 ⟨rfl, k1⟩; have K1 := Aside0.mk k1; clear k1)
  go_wp2
  rw [rounds_succ]
  go_wp2
  go_ret2
  exact ⟨rfl, ⟨K1.out.1.os, K1.out.1.tape, K1.out.1.output, K1.out.1.size, K1.out.1.far⟩⟩

set_option maxHeartbeats 1600000 in
theorem atLeast_short (g gb : Nat) (A : Option Addr) (c n cap : Nat) (cur : Array Value) (xs : List Int) (i : Nat) (p : Int) (a0 a2 : Addr) (W : World) (hb : W.heap[g]? = some (rdr A xs.length c i p))
    (hbuf : W.heap[gb]? = some (.cells cur 5 (0, 0))) (hn : n ≤ cur.size) (hcap : n ≤ cap) (hcap2 : cap ≤ 9223372036854775807)
    (hi : xs.length < i + n) (hi2 : i < xs.length) (hc : xs.length ≤ c) (hl : xs.length ≤ 140737488355328) (hr : ∀ W', Turn (fun k => k = g) W W' → Kd.C (Kd.int .u8) W' A xs.length xs)
    (hv : W.cell? ⟨0, 0, none⟩ = some (.iface 58 (.pointer (some a0)))) (hv2 : W.cell? ⟨2, 0, none⟩ = some (.iface 58 (.pointer (some a2)))) (hg : 2 < g) (hgb : 2 < gb) :
    Calls Tryd.prog 16 #[.iface 35 (.pointer (some ⟨g, 0, none⟩)), .slice (some ⟨gb, 0, none⟩) n cap, .int .i64 n] W fun e w' => e = .returned (.tuple #[.int .i64 ((xs.length - i : Nat) : Int), .iface 58 (.pointer (some a2))]) ∧
      Turn (fun k => k = g ∨ k = gb) W w' := by
  have HB := Aside0.mk hb
  have HBUF := Aside0.mk hbuf
  have HR := Aside0.mk hr
  have HV := Aside0.mk hv
  have HV2 := Aside0.mk hv2
  clear hb hbuf hr hv hv2
  have nA := nilAhead_read
  have mR := method_read
  have sE := same_err
  go_enter Tryd.func16, Tryd.ntmps16
  go_wp2
  refine wp_loop_rounds 3 ?_
  rw [rounds_succ]
  go_wp2
  have HR' := Aside0.mk (read_some g gb A c n cap cur xs i p W.drew HB.out HBUF.out hn (by omega) hc hl (fun W' hT => HR.out W' ⟨hT.os, hT.tape, hT.output, hT.size, hT.far⟩))
  go_region_with (go_at_call 34; refine HR'.out.mono ?_; rintro e w1 ⟨rfl, k1⟩; have K1 := Aside0.mk k1; clear k1)
  have hmn : min (xs.length - i) n = xs.length - i := by omega
  rw [hmn] at K1 ⊢
  clear hmn
  have HX := Aside0.mk K1.out.2.1
  have HV3 := Aside0.mk (K1.out.1.cell (W := W.drew) HV.out (fun h => by rcases h with h | h <;> simp at h <;> omega))
  have HV4 := Aside0.mk (K1.out.1.cell (W := W.drew) HV2.out (fun h => by rcases h with h | h <;> simp at h <;> omega))
  obtain ⟨m, hm⟩ : ∃ m, m = xs.length - i := ⟨_, rfl⟩
  rw [← hm] at HX ⊢
  have hm1 : m < n := by omega
  have hm2 : 1 ≤ m := by omega
  have HM := Aside0.mk hm
  clear hm
  obtain ⟨i0, hi0, _, hsz, _⟩ := info_parts info5
  obtain ⟨A2, hcut, _, _⟩ := print_drop_of (P := Tryd.prog) (Value.int .u8) (0 : Int) 22 5 .i64 Tryd.underlying22 hi0 hsz (some ⟨gb, 0, none⟩) cap (List.replicate n 0) (m : Int) (by omega) (by rw [List.length_replicate]; omega) (by rw [List.length_replicate]; exact hcap)
  rw [List.length_drop, List.length_replicate] at hcut
  go_wp2
  rw [rounds_succ]
  go_wp2
  have HR2 := Aside0.mk (read_end g A A2 xs.length c (n - m) (cap - m) (i + m : Nat) (-1) (.iface 58 (.pointer (some a0))) w1.drew HX.out (by have := HM.out; omega) HV3.out)
  go_region_with (go_at_call 34; refine HR2.out.mono ?_; rintro e w2 ⟨rfl, k2⟩; have K2 := Aside0.mk k2; clear k2)
  have HV5 := Aside0.mk (K2.out.1.cell (W := w1.drew) HV4.out (fun h => by simp at h; omega))
  have HV6 := Aside0.mk (K2.out.1.cell (W := w1.drew) HV3.out (fun h => by simp at h; omega))
  have v0 := HV6.out
  have v2 := HV5.out
  go_wp2
  rw [rounds_succ]
  go_wp2
  go_ret2
  rw [← HM.out]
  exact ⟨rfl, (Turn.trans ⟨K1.out.1.os, K1.out.1.tape, K1.out.1.output, K1.out.1.size, K1.out.1.far⟩ (show Turn (fun k => k = g) w1 w2 from ⟨K2.out.1.os, K2.out.1.tape, K2.out.1.output, K2.out.1.size, K2.out.1.far⟩) (fun k h => .inl (.inl h)))⟩
end Go.Proofs.YtloflgkidclhoaaDoor
