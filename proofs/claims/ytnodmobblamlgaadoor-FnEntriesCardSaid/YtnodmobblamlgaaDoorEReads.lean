/- A number out of bytes: encoding/binary's Uint16 and Uint32 in both orders, spec.read. -/
import Derived.Test.YtnodmobblamlgaaDoorEDir
import Derived.Test.YtnodmobblamlgaaDoorEBase
import Derived.Laws.BitsAllLaws
import Derived.BigQuiet
import Derived.Deep.QuietTactic
namespace Go.Proofs.YtnodmobblamlgaaDoor
open Go.RowKit Go.Proofs.YtnodmobblamlgaaDoorW.PrintWords Go.Proofs.YtnodmobblamlgaaDoorW.PrintLast Go.Proofs.YtnodmobblamlgaaDoorW.PrintMore
set_option linter.unusedVariables false
set_option linter.unusedSimpArgs false

theorem or_mul (a b i m : Nat) (hm : m = 2 ^ i) (h : a < m) : a ||| (b * m) = b * m + a := by
  subst hm
  rw [Nat.or_comm, ← Nat.shiftLeft_eq, Nat.shiftLeft_add_eq_or_of_lt h]
theorem or_mul' (a b i m : Nat) (hm : m = 2 ^ i) (h : a < m) : (b * m) ||| a = b * m + a := by
  rw [Nat.or_comm, or_mul a b i m hm h]
theorem u16_sum (x0 x1 : Int) (a0 : 0 ≤ x0) (b0 : x0 < 256) (a1 : 0 ≤ x1) (b1 : x1 < 256) : bits BinOp.or IntKind.u16 x0 (x1 * 256) = x0 + x1 * 256 := by
  obtain ⟨n0, rfl⟩ := Int.eq_ofNat_of_zero_le a0
  obtain ⟨n1, rfl⟩ := Int.eq_ofNat_of_zero_le a1
  have e : ((n1 : Int) * 256) = ((n1 * 256 : Nat) : Int) := by omega
  rw [e, u16_or_nat n0 (n1 * 256) (by omega) (by omega), or_mul n0 n1 8 256 (by decide) (by omega)]
  omega
theorem u32_sum (x0 x1 x2 x3 : Int) (a0 : 0 ≤ x0) (b0 : x0 < 256) (a1 : 0 ≤ x1) (b1 : x1 < 256) (a2 : 0 ≤ x2) (b2 : x2 < 256) (a3 : 0 ≤ x3) (b3 : x3 < 256) :
    bits BinOp.or IntKind.u32 (bits BinOp.or IntKind.u32 (bits BinOp.or IntKind.u32 x0 (x1 * 256)) (x2 * 65536)) (x3 * 16777216) = x0 + x1 * 256 + x2 * 65536 + x3 * 16777216 := by
  obtain ⟨n0, rfl⟩ := Int.eq_ofNat_of_zero_le a0
  obtain ⟨n1, rfl⟩ := Int.eq_ofNat_of_zero_le a1
  obtain ⟨n2, rfl⟩ := Int.eq_ofNat_of_zero_le a2
  obtain ⟨n3, rfl⟩ := Int.eq_ofNat_of_zero_le a3
  have e1 : ((n1 : Int) * 256) = ((n1 * 256 : Nat) : Int) := by omega
  have e2 : ((n2 : Int) * 65536) = ((n2 * 65536 : Nat) : Int) := by omega
  have e3 : ((n3 : Int) * 16777216) = ((n3 * 16777216 : Nat) : Int) := by omega
  rw [e1, e2, e3, u32_or_nat n0 (n1 * 256) (by omega) (by omega), or_mul n0 n1 8 256 (by decide) (by omega), u32_or_nat _ (n2 * 65536) (by omega) (by omega), or_mul _ n2 16 65536 (by decide) (by omega), u32_or_nat _ (n3 * 16777216) (by omega) (by omega), or_mul _ n3 24 16777216 (by decide) (by omega)]
  omega
theorem i64_or_nat (a b : Nat) (ha : a < 4294967296) (hb : b < 4294967296) : bits .or .i64 (a : Int) (b : Int) = ((a ||| b : Nat) : Int) := by
  have hx : a ||| b < 2 ^ 32 := Nat.or_lt_two_pow (by omega) (by omega)
  show IntKind.i64.wrap ((BitVec.ofInt 64 (a : Int) ||| BitVec.ofInt 64 (b : Int)).toNat : Int) = _
  have e1 : (BitVec.ofInt 64 (a : Int)).toNat = a := by simp [BitVec.toNat_ofInt]; omega
  have e2 : (BitVec.ofInt 64 (b : Int)).toNat = b := by simp [BitVec.toNat_ofInt]; omega
  rw [BitVec.toNat_or, e1, e2, IntKind.wrap_i64]
  omega

/-- The bytes of a number of two, of four. -/
theorem nb2 (v : Int) : nb true 2 v = [v / 256 % 256, v % 256] ∧ nb false 2 v = [v % 256, v / 256 % 256] := by
  constructor <;> simp [nb, List.range_succ]
theorem nb4 (v : Int) : nb true 4 v = [v / 16777216 % 256, v / 65536 % 256, v / 256 % 256, v % 256] ∧ nb false 4 v = [v % 256, v / 256 % 256, v / 65536 % 256, v / 16777216 % 256] := by
  constructor <;> simp [nb, List.range_succ]

/-- The bytes at a slice, one by one, at the addresses as the walk spells them. -/
theorem C_at {W : World} {A : Option Addr} {n : Nat} {xs : List Int} (h : Kd.C (Kd.int .u8) W A n xs) (hp : 0 < n) : ∃ ad, A = some ad ∧ (∀ x, xs[0]? = some x → W.cell? ad = some (.int .u8 x)) ∧ (∀ j x, 0 < j → xs[j]? = some x → W.cell? ⟨ad.block, ad.off + j, none⟩ = some (.int .u8 x)) ∧ ∀ j x, xs[j]? = some x → W.cell? (ad.add j) = some (.int .u8 x) := by
  have hr := Kd.reads_of_C (enc := Value.int .u8) (d := (0 : Int)) h
  obtain ⟨ad, rfl, hc⟩ := hr.2.2 hp
  have key : ∀ j x, xs[j]? = some x → W.cell? (ad.add j) = some (.int .u8 x) := fun j x hx => by
    obtain ⟨hj, hx'⟩ := List.getElem?_eq_some_iff.1 hx
    rw [hc j (by rw [hr.1] at hj; exact hj)]
    simp [List.getD_eq_getElem?_getD, hx]
  refine ⟨ad, rfl, fun x hx => by simpa [Addr.add] using key 0 x hx, fun j x hj hx => ?_, key⟩
  have := key j x hx
  rwa [Addr.add, if_neg (by omega)] at this

set_option maxHeartbeats 800000 in
theorem le16_any (A : Option Addr) (c : Nat) (v : Int) (W : World) (h0 : 0 ≤ v) (h1 : v < 65536) (hC : Kd.C (Kd.int .u8) W A 2 (nb false 2 v)) :
    Calls Tryd.prog 88 #[.agg #[], .slice A 2 c] W (fun e w' => e = .returned (.int .u16 v) ∧ Below W.heap.size W w') := by
  obtain ⟨ad, rfl, hc0, hc, _⟩ := C_at hC (by omega)
  rw [(nb2 v).2] at hc hc0
  have H := Aside0.mk (u16_sum (v % 256) (v / 256 % 256) (by omega) (by omega) (by omega) (by omega))
  have hcs : ∀ {p : Addr} {u : Value}, W.cell? p = some u → (W.alloc (.cells #[] 118)).cell? p = some u := fun h =>
    (World.cell?_of_block (Below.heap_alloc W _ _ (World.block_lt_of_cell? W _ h))).trans h
  have a0 := hcs (hc0 _ rfl)
  have a1 := hcs (hc 1 _ (by omega) rfl)
  clear hc hc0 hcs hC
  have hb : Aside0 (Below W.heap.size W (W.alloc (.cells #[] 118))) := ⟨(Below.refl _ _).alloc (Nat.le_refl _) _⟩
  go_enter Tryd.func88, Tryd.ntmps88
  go_wp2
  go_quiet (fail)
  go_wp2
  go_ret
  have e : v % 256 + v / 256 % 256 * 256 = v := by omega
  exact ⟨congrArg (fun z => Ending.returned (.int .u16 z)) (H.out.trans e), pw_below_drewN hb.out nq⟩
set_option maxHeartbeats 800000 in
theorem le32_any (A : Option Addr) (c : Nat) (v : Int) (W : World) (h0 : 0 ≤ v) (h1 : v < 4294967296) (hC : Kd.C (Kd.int .u8) W A 4 (nb false 4 v)) :
    Calls Tryd.prog 89 #[.agg #[], .slice A 4 c] W (fun e w' => e = .returned (.int .u32 v) ∧ Below W.heap.size W w') := by
  obtain ⟨ad, rfl, hc0, hc, _⟩ := C_at hC (by omega)
  rw [(nb4 v).2] at hc hc0
  have H := Aside0.mk (u32_sum (v % 256) (v / 256 % 256) (v / 65536 % 256) (v / 16777216 % 256) (by omega) (by omega) (by omega) (by omega) (by omega) (by omega) (by omega) (by omega))
  have hcs : ∀ {p : Addr} {u : Value}, W.cell? p = some u → (W.alloc (.cells #[] 118)).cell? p = some u := fun h =>
    (World.cell?_of_block (Below.heap_alloc W _ _ (World.block_lt_of_cell? W _ h))).trans h
  have a0 := hcs (hc0 _ rfl)
  have a1 := hcs (hc 1 _ (by omega) rfl)
  have a2 := hcs (hc 2 _ (by omega) rfl)
  have a3 := hcs (hc 3 _ (by omega) rfl)
  clear hc hc0 hcs hC
  have hb : Aside0 (Below W.heap.size W (W.alloc (.cells #[] 118))) := ⟨(Below.refl _ _).alloc (Nat.le_refl _) _⟩
  go_enter Tryd.func89, Tryd.ntmps89
  go_wp2
  go_quiet (fail)
  go_wp2
  go_ret
  have e : v % 256 + v / 256 % 256 * 256 + v / 65536 % 256 * 65536 + v / 16777216 % 256 * 16777216 = v := by omega
  exact ⟨congrArg (fun z => Ending.returned (.int .u32 z)) (H.out.trans e), pw_below_drewN hb.out nq⟩
set_option maxHeartbeats 800000 in
theorem be16_any (A : Option Addr) (c : Nat) (v : Int) (W : World) (h0 : 0 ≤ v) (h1 : v < 65536) (hC : Kd.C (Kd.int .u8) W A 2 (nb true 2 v)) :
    Calls Tryd.prog 96 #[.agg #[], .slice A 2 c] W (fun e w' => e = .returned (.int .u16 v) ∧ Below W.heap.size W w') := by
  obtain ⟨ad, rfl, hc0, hc, _⟩ := C_at hC (by omega)
  rw [(nb2 v).1] at hc hc0
  have H := Aside0.mk (u16_sum (v % 256) (v / 256 % 256) (by omega) (by omega) (by omega) (by omega))
  have hcs : ∀ {p : Addr} {u : Value}, W.cell? p = some u → (W.alloc (.cells #[] 119)).cell? p = some u := fun h =>
    (World.cell?_of_block (Below.heap_alloc W _ _ (World.block_lt_of_cell? W _ h))).trans h
  have a0 := hcs (hc0 _ rfl)
  have a1 := hcs (hc 1 _ (by omega) rfl)
  clear hc hc0 hcs hC
  have hb : Aside0 (Below W.heap.size W (W.alloc (.cells #[] 119))) := ⟨(Below.refl _ _).alloc (Nat.le_refl _) _⟩
  go_enter Tryd.func96, Tryd.ntmps96
  go_wp2
  go_quiet (fail)
  go_wp2
  go_ret
  have e : v % 256 + v / 256 % 256 * 256 = v := by omega
  exact ⟨congrArg (fun z => Ending.returned (.int .u16 z)) (H.out.trans e), pw_below_drewN hb.out nq⟩
set_option maxHeartbeats 800000 in
theorem be32_any (A : Option Addr) (c : Nat) (v : Int) (W : World) (h0 : 0 ≤ v) (h1 : v < 4294967296) (hC : Kd.C (Kd.int .u8) W A 4 (nb true 4 v)) :
    Calls Tryd.prog 97 #[.agg #[], .slice A 4 c] W (fun e w' => e = .returned (.int .u32 v) ∧ Below W.heap.size W w') := by
  obtain ⟨ad, rfl, hc0, hc, _⟩ := C_at hC (by omega)
  rw [(nb4 v).1] at hc hc0
  have H := Aside0.mk (u32_sum (v % 256) (v / 256 % 256) (v / 65536 % 256) (v / 16777216 % 256) (by omega) (by omega) (by omega) (by omega) (by omega) (by omega) (by omega) (by omega))
  have hcs : ∀ {p : Addr} {u : Value}, W.cell? p = some u → (W.alloc (.cells #[] 119)).cell? p = some u := fun h =>
    (World.cell?_of_block (Below.heap_alloc W _ _ (World.block_lt_of_cell? W _ h))).trans h
  have a0 := hcs (hc0 _ rfl)
  have a1 := hcs (hc 1 _ (by omega) rfl)
  have a2 := hcs (hc 2 _ (by omega) rfl)
  have a3 := hcs (hc 3 _ (by omega) rfl)
  clear hc hc0 hcs hC
  have hb : Aside0 (Below W.heap.size W (W.alloc (.cells #[] 119))) := ⟨(Below.refl _ _).alloc (Nat.le_refl _) _⟩
  go_enter Tryd.func97, Tryd.ntmps97
  go_wp2
  go_quiet (fail)
  go_wp2
  go_ret
  have e : v % 256 + v / 256 % 256 * 256 + v / 65536 % 256 * 65536 + v / 16777216 % 256 * 16777216 = v := by omega
  exact ⟨congrArg (fun z => Ending.returned (.int .u32 z)) (H.out.trans e), pw_below_drewN hb.out nq⟩

theorem be_step (x y : Nat) (hx : x < 16777216) (hy : y < 256) : bits BinOp.or IntKind.i64 ((x : Int) * 256) (y : Int) = ((x * 256 + y : Nat) : Int) := by
  have e : ((x : Int) * 256) = ((x * 256 : Nat) : Int) := by omega
  rw [e, i64_or_nat _ _ (by omega) (by omega), or_mul' y x 8 256 (by decide) (by omega)]

theorem at_byte {big : Bool} {n p : Nat} {bs : List Int} {v : Int} (h : AtN big n bs p v) (j : Nat) (x : Int) (hj : j < n) (hx : (nb big n v)[j]? = some x) : bs[p + j]? = some x := by
  rw [← h.2, List.getElem?_take, if_pos hj, List.getElem?_drop] at hx
  exact hx
theorem or_low (x y m : Int) (hm : m = 256 ∨ m = 65536 ∨ m = 16777216) (hx : 0 ≤ x) (hx2 : x < m) (hy : 0 ≤ y) (hy2 : y < 256) : bits BinOp.or IntKind.i64 x (y * m) = x + y * m := by
  obtain ⟨a, rfl⟩ := Int.eq_ofNat_of_zero_le hx
  obtain ⟨b, rfl⟩ := Int.eq_ofNat_of_zero_le hy
  rcases hm with rfl | rfl | rfl
  · rw [show ((b : Int) * 256) = ((b * 256 : Nat) : Int) by omega, i64_or_nat _ _ (by omega) (by omega), or_mul a b 8 _ (by decide) (by omega)]; omega
  · rw [show ((b : Int) * 65536) = ((b * 65536 : Nat) : Int) by omega, i64_or_nat _ _ (by omega) (by omega), or_mul a b 16 _ (by decide) (by omega)]; omega
  · rw [show ((b : Int) * 16777216) = ((b * 16777216 : Nat) : Int) by omega, i64_or_nat _ _ (by omega) (by omega), or_mul a b 24 _ (by decide) (by omega)]; omega
theorem or_high (x y : Int) (hx : 0 ≤ x) (hx2 : x < 16777216) (hy : 0 ≤ y) (hy2 : y < 256) : bits BinOp.or IntKind.i64 (x * 256) y = x * 256 + y := by
  obtain ⟨a, rfl⟩ := Int.eq_ofNat_of_zero_le hx
  obtain ⟨b, rfl⟩ := Int.eq_ofNat_of_zero_le hy
  rw [be_step a b (by omega) (by omega)]
  omega
theorem or_zero (y : Int) (hy : 0 ≤ y) (hy2 : y < 256) : bits BinOp.or IntKind.i64 0 y = y := by
  have := or_high 0 y (by omega) (by omega) hy hy2
  simpa using this

set_option maxHeartbeats 1600000 in
theorem read_b2 (A : Option Addr) (N c : Nat) (bs : List Int) (p : Nat) (v : Int) (W : World) (hp : 1 ≤ p) (hv : 0 ≤ v) (hv2 : v < 65536) (hC : Kd.C (Kd.int .u8) W A N bs) (hN : N ≤ 2000000000) (hat : AtN true 2 bs p v) :
    Calls Tryd.prog 30 #[.bool true, .int .i64 2, .slice A N c, .int .i64 p] W (fun e w' => e = .returned (.int .i64 v) ∧ W = w') := by
  have hl : p + 2 ≤ N := by have := hat.1; rwa [hC.1] at this
  obtain ⟨ad, rfl, hc0, hc, hk⟩ := C_at hC (by omega)
  have hb := at_byte hat
  rw [(nb2 v).1] at hb
  have a0 := hk (p + 0) _ (hb 0 _ (by omega) rfl)
  have a1 := hc (p + 1) _ (by omega) (hb 1 _ (by omega) rfl)
  rw [Nat.add_zero] at a0
  clear hb hc hc0 hC hat hk
  have hp0 : (p : Int) + 0 < N := by omega
  have hp1 : (p : Int) + 1 < N := by omega
  rw [Int.add_zero] at hp0
  have e0 := or_zero (v / 256 % 256) (by omega) (by omega)
  have e1 := or_high (v / 256 % 256) (v % 256) (by omega) (by omega) (by omega) (by omega)
  have ev : (v / 256 % 256) * 256 + v % 256 = v := by omega
  have EV := Aside0.mk ev
  clear ev
  go_enter Tryd.func30, Tryd.ntmps30
  go_wp2
  refine wp_loop_rounds 3 ?_
  rw [rounds_succ]
  go_wp2
  rw [rounds_succ]
  go_wp2
  rw [rounds_succ]
  go_wp2
  go_ret
  exact ⟨congrArg (fun z => Ending.returned (.int .i64 z)) EV.out, rfl⟩
set_option maxHeartbeats 1600000 in
theorem read_l2 (A : Option Addr) (N c : Nat) (bs : List Int) (p : Nat) (v : Int) (W : World) (hp : 1 ≤ p) (hv : 0 ≤ v) (hv2 : v < 65536) (hC : Kd.C (Kd.int .u8) W A N bs) (hN : N ≤ 2000000000) (hat : AtN false 2 bs p v) :
    Calls Tryd.prog 30 #[.bool false, .int .i64 2, .slice A N c, .int .i64 p] W (fun e w' => e = .returned (.int .i64 v) ∧ W = w') := by
  have hl : p + 2 ≤ N := by have := hat.1; rwa [hC.1] at this
  obtain ⟨ad, rfl, hc0, hc, hk⟩ := C_at hC (by omega)
  have hb := at_byte hat
  rw [(nb2 v).2] at hb
  have a0 := hk (p + 0) _ (hb 0 _ (by omega) rfl)
  have a1 := hc (p + 1) _ (by omega) (hb 1 _ (by omega) rfl)
  rw [Nat.add_zero] at a0
  clear hb hc hc0 hC hat hk
  have hp0 : (p : Int) + 0 < N := by omega
  have hp1 : (p : Int) + 1 < N := by omega
  rw [Int.add_zero] at hp0
  have e0 := or_zero (v % 256) (by omega) (by omega)
  have e1 := or_low (v % 256) (v / 256 % 256) 256 (by omega) (by omega) (by omega) (by omega) (by omega)
  have ev : v % 256 + v / 256 % 256 * 256 = v := by omega
  have EV := Aside0.mk ev
  clear ev
  go_enter Tryd.func30, Tryd.ntmps30
  go_wp2
  refine wp_loop_rounds 3 ?_
  rw [rounds_succ]
  go_wp2
  rw [rounds_succ]
  go_wp2
  rw [rounds_succ]
  go_wp2
  go_ret
  exact ⟨congrArg (fun z => Ending.returned (.int .i64 z)) EV.out, rfl⟩
set_option maxHeartbeats 1600000 in
theorem read_b4 (A : Option Addr) (N c : Nat) (bs : List Int) (p : Nat) (v : Int) (W : World) (hp : 1 ≤ p) (hv : 0 ≤ v) (hv2 : v < 4294967296) (hC : Kd.C (Kd.int .u8) W A N bs) (hN : N ≤ 2000000000) (hat : AtN true 4 bs p v) :
    Calls Tryd.prog 30 #[.bool true, .int .i64 4, .slice A N c, .int .i64 p] W (fun e w' => e = .returned (.int .i64 v) ∧ W = w') := by
  have hl : p + 4 ≤ N := by have := hat.1; rwa [hC.1] at this
  obtain ⟨ad, rfl, hc0, hc, hk⟩ := C_at hC (by omega)
  have hb := at_byte hat
  rw [(nb4 v).1] at hb
  have a0 := hk (p + 0) _ (hb 0 _ (by omega) rfl)
  have a1 := hc (p + 1) _ (by omega) (hb 1 _ (by omega) rfl)
  have a2 := hc (p + 2) _ (by omega) (hb 2 _ (by omega) rfl)
  have a3 := hc (p + 3) _ (by omega) (hb 3 _ (by omega) rfl)
  rw [Nat.add_zero] at a0
  clear hb hc hc0 hC hat hk
  have hp0 : (p : Int) + 0 < N := by omega
  have hp1 : (p : Int) + 1 < N := by omega
  have hp2 : (p : Int) + 2 < N := by omega
  have hp3 : (p : Int) + 3 < N := by omega
  rw [Int.add_zero] at hp0
  have e0 := or_zero (v / 16777216 % 256) (by omega) (by omega)
  have e1 := or_high (v / 16777216 % 256) (v / 65536 % 256) (by omega) (by omega) (by omega) (by omega)
  have e2 := or_high ((v / 16777216 % 256) * 256 + v / 65536 % 256) (v / 256 % 256) (by omega) (by omega) (by omega) (by omega)
  have e3 := or_high (((v / 16777216 % 256) * 256 + v / 65536 % 256) * 256 + v / 256 % 256) (v % 256) (by omega) (by omega) (by omega) (by omega)
  have ev : (((v / 16777216 % 256) * 256 + v / 65536 % 256) * 256 + v / 256 % 256) * 256 + v % 256 = v := by omega
  have EV := Aside0.mk ev
  clear ev
  go_enter Tryd.func30, Tryd.ntmps30
  go_wp2
  refine wp_loop_rounds 5 ?_
  rw [rounds_succ]
  go_wp2
  rw [rounds_succ]
  go_wp2
  rw [rounds_succ]
  go_wp2
  rw [rounds_succ]
  go_wp2
  rw [rounds_succ]
  go_wp2
  go_ret
  exact ⟨congrArg (fun z => Ending.returned (.int .i64 z)) EV.out, rfl⟩
set_option maxHeartbeats 1600000 in
theorem read_l4 (A : Option Addr) (N c : Nat) (bs : List Int) (p : Nat) (v : Int) (W : World) (hp : 1 ≤ p) (hv : 0 ≤ v) (hv2 : v < 4294967296) (hC : Kd.C (Kd.int .u8) W A N bs) (hN : N ≤ 2000000000) (hat : AtN false 4 bs p v) :
    Calls Tryd.prog 30 #[.bool false, .int .i64 4, .slice A N c, .int .i64 p] W (fun e w' => e = .returned (.int .i64 v) ∧ W = w') := by
  have hl : p + 4 ≤ N := by have := hat.1; rwa [hC.1] at this
  obtain ⟨ad, rfl, hc0, hc, hk⟩ := C_at hC (by omega)
  have hb := at_byte hat
  rw [(nb4 v).2] at hb
  have a0 := hk (p + 0) _ (hb 0 _ (by omega) rfl)
  have a1 := hc (p + 1) _ (by omega) (hb 1 _ (by omega) rfl)
  have a2 := hc (p + 2) _ (by omega) (hb 2 _ (by omega) rfl)
  have a3 := hc (p + 3) _ (by omega) (hb 3 _ (by omega) rfl)
  rw [Nat.add_zero] at a0
  clear hb hc hc0 hC hat hk
  have hp0 : (p : Int) + 0 < N := by omega
  have hp1 : (p : Int) + 1 < N := by omega
  have hp2 : (p : Int) + 2 < N := by omega
  have hp3 : (p : Int) + 3 < N := by omega
  rw [Int.add_zero] at hp0
  have e0 := or_zero (v % 256) (by omega) (by omega)
  have e1 := or_low (v % 256) (v / 256 % 256) 256 (by omega) (by omega) (by omega) (by omega) (by omega)
  have e2 := or_low (v % 256 + v / 256 % 256 * 256) (v / 65536 % 256) 65536 (by omega) (by omega) (by omega) (by omega) (by omega)
  have e3 := or_low (v % 256 + v / 256 % 256 * 256 + v / 65536 % 256 * 65536) (v / 16777216 % 256) 16777216 (by omega) (by omega) (by omega) (by omega) (by omega)
  have ev : v % 256 + v / 256 % 256 * 256 + v / 65536 % 256 * 65536 + v / 16777216 % 256 * 16777216 = v := by omega
  have EV := Aside0.mk ev
  clear ev
  go_enter Tryd.func30, Tryd.ntmps30
  go_wp2
  refine wp_loop_rounds 5 ?_
  rw [rounds_succ]
  go_wp2
  rw [rounds_succ]
  go_wp2
  rw [rounds_succ]
  go_wp2
  rw [rounds_succ]
  go_wp2
  rw [rounds_succ]
  go_wp2
  go_ret
  exact ⟨congrArg (fun z => Ending.returned (.int .i64 z)) EV.out, rfl⟩
/-- spec.read, of two bytes or four. -/
theorem read_any (big : Bool) (n : Nat) (hn : n = 2 ∨ n = 4) (A : Option Addr) (N c : Nat) (bs : List Int) (p : Nat) (v : Int) (W : World) (hp : 1 ≤ p) (hv : 0 ≤ v) (hv2 : n = 2 → v < 65536) (hv4 : v < 4294967296) (hC : Kd.C (Kd.int .u8) W A N bs) (hN : N ≤ 2000000000) (hat : AtN big n bs p v) :
    Calls Tryd.prog 30 #[.bool big, .int .i64 n, .slice A N c, .int .i64 p] W (fun e w' => e = .returned (.int .i64 v) ∧ W = w') := by
  rcases hn with rfl | rfl <;> cases big
  · exact read_l2 A N c bs p v W hp hv (hv2 rfl) hC hN hat
  · exact read_b2 A N c bs p v W hp hv (hv2 rfl) hC hN hat
  · exact read_l4 A N c bs p v W hp hv hv4 hC hN hat
  · exact read_b4 A N c bs p v W hp hv hv4 hC hN hat
end Go.Proofs.YtnodmobblamlgaaDoor
