/- Contracts of io.ReadFull over a bytes.Reader at the dump of this seat. -/
import Derived.Test.YtloflgkidclhoaaDoorWalkC
namespace Go.Proofs.YtloflgkidclhoaaDoor
open Go.RowKit Go.Proofs.YtloflgkidclhoaaDoorW.PrintWords Go.Proofs.YtloflgkidclhoaaDoorW.PrintLast Go.Proofs.YtloflgkidclhoaaDoorW.PrintMore
set_option linter.unusedVariables false
set_option linter.unusedSimpArgs false

set_option maxHeartbeats 1600000 in
theorem readFull_ok (g gb : Nat) (A : Option Addr) (c n cap : Nat) (cur : Array Value) (xs : List Int) (i : Nat) (p : Int) (W : World) (hb : W.heap[g]? = some (rdr A xs.length c i p))
    (hbuf : W.heap[gb]? = some (.cells cur 5 (0, 0))) (hn : n ≤ cur.size) (hn1 : 1 ≤ n)
    (hi : i + n ≤ xs.length) (hc : xs.length ≤ c) (hl : xs.length ≤ 140737488355328) (hr : ∀ W', Turn (fun k => k = g) W W' → Kd.C (Kd.int .u8) W' A xs.length xs) :
    Calls Tryd.prog 14 #[.iface 35 (.pointer (some ⟨g, 0, none⟩)), .slice (some ⟨gb, 0, none⟩) n cap] W fun e w' => e = .returned (.tuple #[.int .i64 n, .nilIface]) ∧
      Turn (fun k => k = g ∨ k = gb) W w' ∧ w'.heap[g]? = some (rdr A xs.length c ((i + n : Nat) : Int) (-1)) ∧
      ∃ cur', w'.heap[gb]? = some (.cells cur' 5 (0, 0)) ∧ cur'.size = cur.size ∧ cur'.toList.take n = nums .u8 ((xs.drop i).take n) := by
  have HR' := Aside0.mk (atLeast_ok g gb A c n cap cur xs i p W hb hbuf hn hn1 hi hc hl hr)
  clear hb hbuf hr
  go_enter Tryd.func14, Tryd.ntmps14
  go_wp2_with (go_at_call 16; refine HR'.out.mono ?_; rintro e w1 ⟨rfl, k1⟩; have K1 := Aside0.mk k1; clear k1)
  go_ret2
  exact ⟨rfl, K1.out⟩

/-- What a read that falls short leaves: an error. -/
def Short (S : Nat → Prop) (W : World) (e : Ending) (w' : World) : Prop := ∃ k v, e = .returned (.tuple #[.int .i64 k, .iface 58 v]) ∧ Turn S W w'

set_option maxHeartbeats 1600000 in
theorem readFull_bad (g gb : Nat) (A : Option Addr) (c n cap : Nat) (cur : Array Value) (xs : List Int) (i : Nat) (p : Int) (a0 a2 : Addr) (W : World) (hb : W.heap[g]? = some (rdr A xs.length c i p))
    (hbuf : W.heap[gb]? = some (.cells cur 5 (0, 0))) (hn : n ≤ cur.size) (hn1 : 1 ≤ n) (hcap : n ≤ cap) (hcap2 : cap ≤ 9223372036854775807)
    (hi : xs.length < i + n) (hc : xs.length ≤ c) (hl : xs.length ≤ 140737488355328) (hr : ∀ W', Turn (fun k => k = g) W W' → Kd.C (Kd.int .u8) W' A xs.length xs)
    (hv : W.cell? ⟨0, 0, none⟩ = some (.iface 58 (.pointer (some a0)))) (hv2 : W.cell? ⟨2, 0, none⟩ = some (.iface 58 (.pointer (some a2)))) (hg : 2 < g) (hgb : 2 < gb) :
    Calls Tryd.prog 14 #[.iface 35 (.pointer (some ⟨g, 0, none⟩)), .slice (some ⟨gb, 0, none⟩) n cap] W (Short (fun k => k = g ∨ k = gb) W) := by
  have HR' : Aside0 (Calls Tryd.prog 16 #[.iface 35 (.pointer (some ⟨g, 0, none⟩)), .slice (some ⟨gb, 0, none⟩) n cap, .int .i64 n] W (Short (fun k => k = g ∨ k = gb) W)) := by
    rcases Nat.lt_or_ge i xs.length with h | h
    · exact ⟨(atLeast_short g gb A c n cap cur xs i p a0 a2 W hb hbuf hn hcap hcap2 hi h hc hl hr hv hv2 hg hgb).mono fun e w' ⟨h1, h2⟩ => ⟨_, _, h1, h2⟩⟩
    · exact ⟨(atLeast_none g gb A c n cap xs.length i p a0 W hb hn1 hcap hcap2 (by omega) hv).mono fun e w' ⟨h1, h2⟩ => ⟨_, _, h1, h2.mono (fun k h => .inl h)⟩⟩
  clear hb hbuf hr hv hv2
  go_enter Tryd.func14, Tryd.ntmps14
  go_wp2_with (go_at_call 16; refine HR'.out.mono ?_; rintro e w1 ⟨k, v, rfl, k1⟩; have K1 := Aside0.mk k1; clear k1)
  go_ret2
  exact ⟨k, v, rfl, K1.out⟩
end Go.Proofs.YtloflgkidclhoaaDoor
