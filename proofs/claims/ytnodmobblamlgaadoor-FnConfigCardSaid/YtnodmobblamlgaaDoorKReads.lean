/- A number out of bytes: encoding/binary's Uint16 and Uint32 in both orders, spec.read. -/
import Derived.Test.YtnodmobblamlgaaDoorKDir
import Derived.Test.YtnodmobblamlgaaDoorKBase
import Derived.Laws.BitsAllLaws
import Derived.BigQuiet
import Derived.Deep.QuietTactic
namespace Go.Proofs.YtnodmobblamlgaaDoor
open Go.RowKit Go.Proofs.YtnodmobblamlgaaDoorW.PrintWords Go.Proofs.YtnodmobblamlgaaDoorW.PrintLast Go.Proofs.YtnodmobblamlgaaDoorW.PrintMore
set_option linter.unusedVariables false
set_option linter.unusedSimpArgs false

theorem or_mul (a b i m : Nat) (hm : m = 2 ^ i) (h : a < m) : a ||| (b * m) = b * m + a := by
  subst hm
  rw [Nat.or_comm, ← Nat.shiftLeft_eq, Nat.shiftLeft_add_eq_or_of_lt h]
theorem u16_sum (x0 x1 : Int) (a0 : 0 ≤ x0) (b0 : x0 < 256) (a1 : 0 ≤ x1) (b1 : x1 < 256) : bits BinOp.or IntKind.u16 x0 (x1 * 256) = x0 + x1 * 256 := by
  obtain ⟨n0, rfl⟩ := Int.eq_ofNat_of_zero_le a0
  obtain ⟨n1, rfl⟩ := Int.eq_ofNat_of_zero_le a1
  have e : ((n1 : Int) * 256) = ((n1 * 256 : Nat) : Int) := by omega
  rw [e, u16_or_nat n0 (n1 * 256) (by omega) (by omega), or_mul n0 n1 8 256 (by decide) (by omega)]
  omega
theorem u32_sum (x0 x1 x2 x3 : Int) (a0 : 0 ≤ x0) (b0 : x0 < 256) (a1 : 0 ≤ x1) (b1 : x1 < 256) (a2 : 0 ≤ x2) (b2 : x2 < 256) (a3 : 0 ≤ x3) (b3 : x3 < 256) :
    bits BinOp.or IntKind.u32 (bits BinOp.or IntKind.u32 (bits BinOp.or IntKind.u32 x0 (x1 * 256)) (x2 * 65536)) (x3 * 16777216) = x0 + x1 * 256 + x2 * 65536 + x3 * 16777216 := by
  obtain ⟨n0, rfl⟩ := Int.eq_ofNat_of_zero_le a0
  obtain ⟨n1, rfl⟩ := Int.eq_ofNat_of_zero_le a1
  obtain ⟨n2, rfl⟩ := Int.eq_ofNat_of_zero_le a2
  obtain ⟨n3, rfl⟩ := Int.eq_ofNat_of_zero_le a3
  have e1 : ((n1 : Int) * 256) = ((n1 * 256 : Nat) : Int) := by omega
  have e2 : ((n2 : Int) * 65536) = ((n2 * 65536 : Nat) : Int) := by omega
  have e3 : ((n3 : Int) * 16777216) = ((n3 * 16777216 : Nat) : Int) := by omega
  rw [e1, e2, e3, u32_or_nat n0 (n1 * 256) (by omega) (by omega), or_mul n0 n1 8 256 (by decide) (by omega), u32_or_nat _ (n2 * 65536) (by omega) (by omega), or_mul _ n2 16 65536 (by decide) (by omega), u32_or_nat _ (n3 * 16777216) (by omega) (by omega), or_mul _ n3 24 16777216 (by decide) (by omega)]
  omega

/-- The bytes of a number of two, of four. -/
theorem nb2 (v : Int) : nb true 2 v = [v / 256 % 256, v % 256] ∧ nb false 2 v = [v % 256, v / 256 % 256] := by
  constructor <;> simp [nb, List.range_succ]
theorem nb4 (v : Int) : nb true 4 v = [v / 16777216 % 256, v / 65536 % 256, v / 256 % 256, v % 256] ∧ nb false 4 v = [v % 256, v / 256 % 256, v / 65536 % 256, v / 16777216 % 256] := by
  constructor <;> simp [nb, List.range_succ]

/-- The bytes at a slice, one by one, at the addresses as the walk spells them. -/
theorem C_at {W : World} {A : Option Addr} {n : Nat} {xs : List Int} (h : Kd.C (Kd.int .u8) W A n xs) (hp : 0 < n) : ∃ ad, A = some ad ∧ (∀ x, xs[0]? = some x → W.cell? ad = some (.int .u8 x)) ∧ (∀ j x, 0 < j → xs[j]? = some x → W.cell? ⟨ad.block, ad.off + j, none⟩ = some (.int .u8 x)) ∧ ∀ j x, xs[j]? = some x → W.cell? (ad.add j) = some (.int .u8 x) := by
  have hr := Kd.reads_of_C (enc := Value.int .u8) (d := (0 : Int)) h
  obtain ⟨ad, rfl, hc⟩ := hr.2.2 hp
  have key : ∀ j x, xs[j]? = some x → W.cell? (ad.add j) = some (.int .u8 x) := fun j x hx => by
    obtain ⟨hj, hx'⟩ := List.getElem?_eq_some_iff.1 hx
    rw [hc j (by rw [hr.1] at hj; exact hj)]
    simp [List.getD_eq_getElem?_getD, hx]
  refine ⟨ad, rfl, fun x hx => by simpa [Addr.add] using key 0 x hx, fun j x hj hx => ?_, key⟩
  have := key j x hx
  rwa [Addr.add, if_neg (by omega)] at this

set_option maxHeartbeats 800000 in
theorem le16_any (A : Option Addr) (c : Nat) (v : Int) (W : World) (h0 : 0 ≤ v) (h1 : v < 65536) (hC : Kd.C (Kd.int .u8) W A 2 (nb false 2 v)) :
    Calls Tryd.prog 88 #[.agg #[], .slice A 2 c] W (fun e w' => e = .returned (.int .u16 v) ∧ Below W.heap.size W w') := by
  obtain ⟨ad, rfl, hc0, hc, _⟩ := C_at hC (by omega)
  rw [(nb2 v).2] at hc hc0
  have H := Aside0.mk (u16_sum (v % 256) (v / 256 % 256) (by omega) (by omega) (by omega) (by omega))
  have hcs : ∀ {p : Addr} {u : Value}, W.cell? p = some u → (W.alloc (.cells #[] 118)).cell? p = some u := fun h =>
    (World.cell?_of_block (Below.heap_alloc W _ _ (World.block_lt_of_cell? W _ h))).trans h
  have a0 := hcs (hc0 _ rfl)
  have a1 := hcs (hc 1 _ (by omega) rfl)
  clear hc hc0 hcs hC
  have hb : Aside0 (Below W.heap.size W (W.alloc (.cells #[] 118))) := ⟨(Below.refl _ _).alloc (Nat.le_refl _) _⟩
  go_enter Tryd.func88, Tryd.ntmps88
  go_wp2
  go_quiet (fail)
  go_wp2
  go_ret
  have e : v % 256 + v / 256 % 256 * 256 = v := by omega
  exact ⟨congrArg (fun z => Ending.returned (.int .u16 z)) (H.out.trans e), pw_below_drewN hb.out nq⟩
set_option maxHeartbeats 800000 in
theorem le32_any (A : Option Addr) (c : Nat) (v : Int) (W : World) (h0 : 0 ≤ v) (h1 : v < 4294967296) (hC : Kd.C (Kd.int .u8) W A 4 (nb false 4 v)) :
    Calls Tryd.prog 89 #[.agg #[], .slice A 4 c] W (fun e w' => e = .returned (.int .u32 v) ∧ Below W.heap.size W w') := by
  obtain ⟨ad, rfl, hc0, hc, _⟩ := C_at hC (by omega)
  rw [(nb4 v).2] at hc hc0
  have H := Aside0.mk (u32_sum (v % 256) (v / 256 % 256) (v / 65536 % 256) (v / 16777216 % 256) (by omega) (by omega) (by omega) (by omega) (by omega) (by omega) (by omega) (by omega))
  have hcs : ∀ {p : Addr} {u : Value}, W.cell? p = some u → (W.alloc (.cells #[] 118)).cell? p = some u := fun h =>
    (World.cell?_of_block (Below.heap_alloc W _ _ (World.block_lt_of_cell? W _ h))).trans h
  have a0 := hcs (hc0 _ rfl)
  have a1 := hcs (hc 1 _ (by omega) rfl)
  have a2 := hcs (hc 2 _ (by omega) rfl)
  have a3 := hcs (hc 3 _ (by omega) rfl)
  clear hc hc0 hcs hC
  have hb : Aside0 (Below W.heap.size W (W.alloc (.cells #[] 118))) := ⟨(Below.refl _ _).alloc (Nat.le_refl _) _⟩
  go_enter Tryd.func89, Tryd.ntmps89
  go_wp2
  go_quiet (fail)
  go_wp2
  go_ret
  have e : v % 256 + v / 256 % 256 * 256 + v / 65536 % 256 * 65536 + v / 16777216 % 256 * 16777216 = v := by omega
  exact ⟨congrArg (fun z => Ending.returned (.int .u32 z)) (H.out.trans e), pw_below_drewN hb.out nq⟩
set_option maxHeartbeats 800000 in
theorem be16_any (A : Option Addr) (c : Nat) (v : Int) (W : World) (h0 : 0 ≤ v) (h1 : v < 65536) (hC : Kd.C (Kd.int .u8) W A 2 (nb true 2 v)) :
    Calls Tryd.prog 96 #[.agg #[], .slice A 2 c] W (fun e w' => e = .returned (.int .u16 v) ∧ Below W.heap.size W w') := by
  obtain ⟨ad, rfl, hc0, hc, _⟩ := C_at hC (by omega)
  rw [(nb2 v).1] at hc hc0
  have H := Aside0.mk (u16_sum (v % 256) (v / 256 % 256) (by omega) (by omega) (by omega) (by omega))
  have hcs : ∀ {p : Addr} {u : Value}, W.cell? p = some u → (W.alloc (.cells #[] 119)).cell? p = some u := fun h =>
    (World.cell?_of_block (Below.heap_alloc W _ _ (World.block_lt_of_cell? W _ h))).trans h
  have a0 := hcs (hc0 _ rfl)
  have a1 := hcs (hc 1 _ (by omega) rfl)
  clear hc hc0 hcs hC
  have hb : Aside0 (Below W.heap.size W (W.alloc (.cells #[] 119))) := ⟨(Below.refl _ _).alloc (Nat.le_refl _) _⟩
  go_enter Tryd.func96, Tryd.ntmps96
  go_wp2
  go_quiet (fail)
  go_wp2
  go_ret
  have e : v % 256 + v / 256 % 256 * 256 = v := by omega
  exact ⟨congrArg (fun z => Ending.returned (.int .u16 z)) (H.out.trans e), pw_below_drewN hb.out nq⟩
set_option maxHeartbeats 800000 in
theorem be32_any (A : Option Addr) (c : Nat) (v : Int) (W : World) (h0 : 0 ≤ v) (h1 : v < 4294967296) (hC : Kd.C (Kd.int .u8) W A 4 (nb true 4 v)) :
    Calls Tryd.prog 97 #[.agg #[], .slice A 4 c] W (fun e w' => e = .returned (.int .u32 v) ∧ Below W.heap.size W w') := by
  obtain ⟨ad, rfl, hc0, hc, _⟩ := C_at hC (by omega)
  rw [(nb4 v).1] at hc hc0
  have H := Aside0.mk (u32_sum (v % 256) (v / 256 % 256) (v / 65536 % 256) (v / 16777216 % 256) (by omega) (by omega) (by omega) (by omega) (by omega) (by omega) (by omega) (by omega))
  have hcs : ∀ {p : Addr} {u : Value}, W.cell? p = some u → (W.alloc (.cells #[] 119)).cell? p = some u := fun h =>
    (World.cell?_of_block (Below.heap_alloc W _ _ (World.block_lt_of_cell? W _ h))).trans h
  have a0 := hcs (hc0 _ rfl)
  have a1 := hcs (hc 1 _ (by omega) rfl)
  have a2 := hcs (hc 2 _ (by omega) rfl)
  have a3 := hcs (hc 3 _ (by omega) rfl)
  clear hc hc0 hcs hC
  have hb : Aside0 (Below W.heap.size W (W.alloc (.cells #[] 119))) := ⟨(Below.refl _ _).alloc (Nat.le_refl _) _⟩
  go_enter Tryd.func97, Tryd.ntmps97
  go_wp2
  go_quiet (fail)
  go_wp2
  go_ret
  have e : v % 256 + v / 256 % 256 * 256 + v / 65536 % 256 * 65536 + v / 16777216 % 256 * 16777216 = v := by omega
  exact ⟨congrArg (fun z => Ending.returned (.int .u32 z)) (H.out.trans e), pw_below_drewN hb.out nq⟩

end Go.Proofs.YtnodmobblamlgaaDoor
