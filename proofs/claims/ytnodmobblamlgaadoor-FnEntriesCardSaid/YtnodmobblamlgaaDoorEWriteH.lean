/- spec.Write's directory in memory: its list of rows, each with a slice of numbers; the state of the function between its appends. -/
import Derived.Test.YtnodmobblamlgaaDoorEDir
import Derived.Test.YtnodmobblamlgaaDoorEPackedB
import Derived.Test.YtnodmobblamlgaaDoorESamples
import Derived.Test.YtnodmobblamlgaaDoorEEnts
import Derived.Lib.SlBytesConst
import Derived.Deep.RegionLawGrows
namespace Go.Proofs.YtnodmobblamlgaaDoor
open Go.RowKit Go.Proofs.YtnodmobblamlgaaDoor.PFnConfig Go.Proofs.YtnodmobblamlgaaDoorW.PrintWords Go.Proofs.YtnodmobblamlgaaDoorW.PrintLast Go.Proofs.YtnodmobblamlgaaDoorW.PrintMore
set_option linter.unusedVariables false
set_option linter.unusedSimpArgs false

/-- A row of the directory in three cells. -/
def kE : Kd Ent := Kd.iso (Kd.pair (Kd.int .i64) (Kd.pair (Kd.int .i64) (Kd.slice 3 (Kd.int .i64)))) (fun e : Ent => (e.tag, e.kind, e.nums))
theorem kE_M {w : World} {base : Nat} {ok : Nat → Prop} {v : Value} (tag kind : Int) {nums : List Int} (h : Kd.R (Kd.int .i64) 3 w base ok v nums) : kE.M w base ok ⟨tag, kind, nums⟩ [.int .i64 tag, .int .i64 kind, v] :=
  ⟨[.int .i64 tag], [.int .i64 kind, v], rfl, rfl, ⟨[.int .i64 kind], [v], rfl, rfl, ⟨v, rfl, h⟩⟩⟩
theorem kE_K {w : World} {e : Ent} {cs : List Value} (h : kE.K w e cs) : ∃ A c, cs = [.int .i64 e.tag, .int .i64 e.kind, .slice A e.nums.length c] ∧ e.nums.length ≤ c ∧ Kd.C (Kd.int .i64) w A e.nums.length e.nums := by
  obtain ⟨c0, c1, rfl, h0, c2, c3, rfl, h2, A, c, rfl, hc, hC⟩ := h
  exact ⟨A, c, by rw [show c0 = [.int .i64 e.tag] from h0, show c2 = [.int .i64 e.kind] from h2]; rfl, hc, hC⟩
theorem at_E {w : World} {A : Option Addr} {n : Nat} {es : List Ent} (h : Kd.C kE w A n es) (k : Nat) (e : Ent) (he : es[k]? = some e) :
    ∃ ad A' c, A = some ad ∧ w.cell? (ad.add (k * 3)) = some (.int .i64 e.tag) ∧ w.cell? ⟨(ad.add (k * 3)).block, (ad.add (k * 3)).off + 1, none⟩ = some (.int .i64 e.kind) ∧
      w.cell? ⟨(ad.add (k * 3)).block, (ad.add (k * 3)).off + 2, none⟩ = some (.slice A' e.nums.length c) ∧ e.nums.length ≤ c ∧ Kd.C (Kd.int .i64) w A' e.nums.length e.nums := by
  obtain ⟨hk, he'⟩ := List.getElem?_eq_some_iff.1 he
  have hn : es.length = n := Kd.C_len h
  obtain ⟨ad, c, rfl, hl, hK, hc⟩ := Kd.C_get h ⟨0, 0, []⟩ (k : Int) (by omega) (by omega)
  rw [Int.toNat_natCast] at hK hc
  rw [show es.getD k ⟨0, 0, []⟩ = e by rw [List.getD_eq_getElem?_getD, he]; rfl] at hK
  obtain ⟨A', c', rfl, hle, hC⟩ := kE_K hK
  have h0 := hc 0 _ rfl
  have h1 := hc 1 _ rfl
  have h2 := hc 2 _ rfl
  simp only [show kE.sz = 3 from rfl] at h0 h1 h2
  rw [add_field _ _ _ (by omega)] at h1 h2
  exact ⟨ad, A', c', rfl, h0, h1, h2, hle, hC⟩
/-- A piece. -/
theorem at_P {w : World} {A : Option Addr} {n : Nat} {ws : List (List Int)} (h : Kd.C (Kd.slice 5 (Kd.int .u8)) w A n ws) (k : Nat) (hk : k < n) :
    ∃ ad A' c, A = some ad ∧ w.cell? (ad.add k) = some (.slice A' (ws.getD k []).length c) ∧ (ws.getD k []).length ≤ c ∧ Kd.C (Kd.int .u8) w A' (ws.getD k []).length (ws.getD k []) := by
  obtain ⟨ad, c, rfl, hl, ⟨A', c', rfl, hle, hC⟩, hc⟩ := Kd.C_get h [] (k : Int) (by omega) (by omega)
  have h0 := hc 0 _ rfl
  simp only [show (Kd.slice 5 (Kd.int .u8)).sz = 1 from rfl, Int.toNat_natCast, Nat.mul_one, Nat.add_zero] at h0 hC hle
  exact ⟨ad, A', c', rfl, h0, hle, hC⟩

/-- Two rows of int's of one's own, apart. -/
theorem two_rows {W w1 : World} {base e : Nat} {kd : IntKind} {u v v1 : Value} {ys : List Int} (hu : Kd.R (Kd.int kd) e W base (fun _ => True) u ys) (hne : ∀ k, u.ownBlock = some k → some k ≠ v.ownBlock) (hg : W.grownBy w1 v.ownBlock) (hat : v1.ownBlock = v.ownBlock ∨ ∃ b, v1.ownBlock = some b ∧ W.heap.size ≤ b) :
    Kd.R (Kd.int kd) e w1 base (fun _ => True) u ys ∧ ∀ k, u.ownBlock = some k → some k ≠ v1.ownBlock := by
  have h := Kd.R_of_own (h1 := fun _ => rfl) (ok := fun k => True ∧ some k ≠ v.ownBlock) (Kd.own_of_R hu) (fun k hk => ⟨trivial, hne k hk⟩)
  have h2 := Kd.R_after h hg hat
  exact ⟨Kd.R_mono h2 (fun _ _ => trivial), fun k hk => (h2.1 k hk).2⟩
theorem apart_symm {u v : Value} (h : ∀ k, u.ownBlock = some k → some k ≠ v.ownBlock) : ∀ k, v.ownBlock = some k → some k ≠ u.ownBlock := fun k hk he => h k he.symm hk.symm

/-- The state between the appends to the list of rows. -/
structure StC (W : World) (bx : Array Value) (pl sz rs : List Int) (v21 v22 v23 : Value) (wx : World) (v27 : Value) (es : List Ent) : Prop where
  list : kE.R 52 wx W.heap.size (fun _ => True) v27 es
  plc : Kd.R (Kd.int .i64) 3 wx W.heap.size (fun _ => True) v21 pl
  szs : Kd.R (Kd.int .i64) 3 wx W.heap.size (fun _ => True) v22 sz
  rst : Kd.R (Kd.int .u8) 5 wx W.heap.size (fun _ => True) v23 rs
  bel : Below W.heap.size W wx
  box : wx.heap[W.heap.size]? = some (.cells bx 24 (0, 0))
namespace StC
variable {W wx w1 : World} {bx : Array Value} {pl sz rs : List Int} {v21 v22 v23 v27 v1 : Value} {es es' : List Ent}
theorem below (h : StC W bx pl sz rs v21 v22 v23 wx v27 es) (hb : Below wx.heap.size wx w1) : StC W bx pl sz rs v21 v22 v23 w1 v27 es :=
  ⟨Kd.R_below h.list hb, Kd.R_below h.plc hb, Kd.R_below h.szs hb, Kd.R_below h.rst hb, h.bel.trans (hb.mono h.bel.size), (hb.block _ (blk_lt h.box)).trans h.box⟩
theorem alloc (h : StC W bx pl sz rs v21 v22 v23 wx v27 es) (o : Obj) : StC W bx pl sz rs v21 v22 v23 (wx.alloc o) v27 es := h.below ((Below.refl _ _).alloc (Nat.le_refl _) o)
theorem grown (h : StC W bx pl sz rs v21 v22 v23 wx v27 es) (ho : kE.R 52 w1 W.heap.size (fun _ => True) v1 es') (hb : Below W.heap.size W w1) (hg : wx.grownBy w1 v27.ownBlock) : StC W bx pl sz rs v21 v22 v23 w1 v1 es' :=
  ⟨ho, Kd.R_over h.plc h.list (by simp [Kd.int, Kd.scalar]) hg, Kd.R_over h.szs h.list (by simp [Kd.int, Kd.scalar]) hg, Kd.R_over h.rst h.list (by simp [Kd.int, Kd.scalar]) hg, hb, by
    refine (hg.block _ (blk_lt h.box) (fun e => ?_)).trans h.box
    exact Kd.R_ne h.list h.box (by decide) e⟩
theorem off {base : Nat} {ok : Nat → Prop} {v : Value} {l : List Ent} (hl : kE.R 52 wx base ok v l) {e : Ent} {cs : List Value} (hm : kE.M wx base (fun _ => True) e cs) : kE.M wx base (fun k => some k ≠ v.ownBlock) e cs := by
  obtain ⟨inner, ho⟩ := Kd.R_own hl
  cases hv : v.ownBlock with
  | none => exact kE.M_mono (fun _ _ => by simp) hm
  | some g =>
    obtain ⟨cells, hg⟩ := own_typed ho g hv
    refine kE.M_mono (fun k hk => ?_) (Kd.M_types hm hg (by simp [kE, Kd.iso, Kd.pair, Kd.slice, Kd.int, Kd.scalar]))
    intro he
    injection he with he
    exact hk.2 he
end StC
theorem new1 (w : World) (B : Nat) (hB : B ≤ w.heap.size) (x : Int) : Kd.R (Kd.int .i64) 3 (w.alloc (.cells #[.int .i64 x] 3)) B (fun _ => True) (.slice (some ⟨w.heap.size, 0, none⟩) 1 1) [x] :=
  Kd.R_mono (R_newI w B [x] hB (by simp)) (fun _ _ => trivial)
/-- A literal of rows, as what is appended, and as a list. -/
theorem lit_src (w : World) (B : Nat) (hB : B ≤ w.heap.size) {okp : Nat → Prop} {es : List Ent} {inner : List Value} (hr : Reps (kE.M w B okp) 3 es inner) (hm : es.length ≤ 9223372036854775807) :
    ReadsRow (kE.M (w.alloc (.cells inner.toArray 52)) B okp) 3 (w.alloc (.cells inner.toArray 52)) (some ⟨w.heap.size, 0, none⟩) es.length es := by
  have hr2 := hr.imp_ (R' := kE.M (w.alloc (.cells inner.toArray 52)) B okp) (fun p c h => Kd.M_alloc h _)
  obtain ⟨A, c, hv, _, hR⟩ := OwnRow.reads (OwnRow.lit (e := 52) w B hr2 hB hm)
  injection hv with hA _ _
  rw [hA]
  exact hR
theorem lit_list (w : World) (B : Nat) (hB : B ≤ w.heap.size) {es : List Ent} {inner : List Value} (hr : Reps (kE.M w B (fun _ => True)) 3 es inner) (hm : es.length ≤ 9223372036854775807) :
    kE.R 52 (w.alloc (.cells inner.toArray 52)) B (fun _ => True) (.slice (some ⟨w.heap.size, 0, none⟩) es.length es.length) es := by
  refine ⟨fun _ _ => trivial, OwnRow.lit (e := 52) w B (hr.imp_ (fun p c h => ?_)) hB hm⟩
  refine kE.M_mono (fun k hk => ⟨trivial, fun he => ?_⟩) (Kd.M_alloc (kE.M_bound h) _)
  have h3 : k = w.heap.size := by simpa [Value.ownBlock] using he
  have := hk.2.2.1
  omega
abbrev bxOf (b0 : Bool) (wide high : Nat) (x3 x4 x5 x6 : Int) (b7 : Bool) (tw th rows : Nat) : Array Value := #[.bool b0, .int .i64 wide, .int .i64 high, .int .i64 x3, .int .i64 x4, .int .i64 x5, .int .i64 x6, .bool b7, .int .i64 tw, .int .i64 th, .int .i64 rows]
/-- The first five rows. -/
theorem five_list (w : World) (B : Nat) (hB : B ≤ w.heap.size) (x1 x2 x6 x3 : Int) (A : Option Addr) (n c : Nat) (dp : List Int) (hD : Kd.R (Kd.int .i64) 3 w B (fun _ => True) (.slice A n c) dp) :
    kE.R 52 (((((w.alloc (.cells #[.int .i64 x1] 3)).alloc (.cells #[.int .i64 x2] 3)).alloc (.cells #[.int .i64 x6] 3)).alloc (.cells #[.int .i64 x3] 3)).alloc (.cells #[.int .i64 256, .int .i64 3, .slice (some ⟨w.heap.size, 0, none⟩) 1 1, .int .i64 257, .int .i64 4, .slice (some ⟨w.heap.size + 1, 0, none⟩) 1 1, .int .i64 258, .int .i64 3, .slice A n c,
      .int .i64 259, .int .i64 3, .slice (some ⟨w.heap.size + 1 + 1, 0, none⟩) 1 1, .int .i64 262, .int .i64 3, .slice (some ⟨w.heap.size + 1 + 1 + 1, 0, none⟩) 1 1] 52)) B (fun _ => True) (.slice (some ⟨w.heap.size + 1 + 1 + 1 + 1, 0, none⟩) 5 5)
      [⟨256, 3, [x1]⟩, ⟨257, 4, [x2]⟩, ⟨258, 3, dp⟩, ⟨259, 3, [x6]⟩, ⟨262, 3, [x3]⟩] := by
  have r1 := new1 w B hB x1
  have r2 := new1 (w.alloc (.cells #[.int .i64 x1] 3)) B (by simp; omega) x2
  have r3 := new1 ((w.alloc (.cells #[.int .i64 x1] 3)).alloc (.cells #[.int .i64 x2] 3)) B (by simp; omega) x6
  have r4 := new1 (((w.alloc (.cells #[.int .i64 x1] 3)).alloc (.cells #[.int .i64 x2] 3)).alloc (.cells #[.int .i64 x6] 3)) B (by simp; omega) x3
  simp only [World.size_alloc] at r2 r3 r4
  have m1 := kE_M 256 3 (Kd.R_alloc (Kd.R_alloc (Kd.R_alloc r1 (.cells #[.int .i64 x2] 3)) (.cells #[.int .i64 x6] 3)) (.cells #[.int .i64 x3] 3))
  have m2 := kE_M 257 4 (Kd.R_alloc (Kd.R_alloc r2 (.cells #[.int .i64 x6] 3)) (.cells #[.int .i64 x3] 3))
  have m3 := kE_M 258 3 (Kd.R_alloc (Kd.R_alloc (Kd.R_alloc (Kd.R_alloc hD (.cells #[.int .i64 x1] 3)) (.cells #[.int .i64 x2] 3)) (.cells #[.int .i64 x6] 3)) (.cells #[.int .i64 x3] 3))
  have m4 := kE_M 259 3 (Kd.R_alloc r3 (.cells #[.int .i64 x3] 3))
  have m5 := kE_M 262 3 r4
  have h := lit_list _ B (by simp; omega) ((((((Reps.none _ 3).snoc m1 rfl).snoc m2 rfl).snoc m3 rfl).snoc m4 rfl).snoc m5 rfl) (by simp)
  simpa using h
/-- spec.number, its bytes. -/
theorem number_c (big : Bool) (n : Nat) (hn : n = 2 ∨ n = 4) (v : Int) (w : World) : Calls Tryd.prog 19 #[.bool big, .int .i64 (n : Int), .int .i64 v] w (fun e w' => ∃ A c, e = .returned (.slice A n c) ∧ Kd.C (Kd.int .u8) w' A n (nb big n v) ∧ Below w.heap.size w w') := by
  have key : ∀ k, spec_number.f k big n v = some (nb big n v) → Calls Tryd.prog 19 #[.bool big, .int .i64 (n : Int), .int .i64 v] w (fun e w' => ∃ A c, e = .returned (.slice A n c) ∧ Kd.C (Kd.int .u8) w' A n (nb big n v) ∧ Below w.heap.size w w') := fun k h =>
    (spec_number.calls k big n v _ w h).mono (fun e w' ⟨v0, he, hR, hb⟩ => by
      obtain ⟨A, c, hv, _, hC⟩ := Kd.R_reads hR
      rw [nb_length] at hv hC
      exact ⟨A, c, by rw [he, hv], hC, hb⟩)
  rcases hn with rfl | rfl
  · exact key 3 (number2 big v 0)
  · exact key 5 (number4 big v 0)
/-- The file and what stands behind its rows, being made. -/
structure StD (W : World) (v28 v31 : Value) (out tail : List Int) (wx : World) : Prop where
  out : Kd.R (Kd.int .u8) 5 wx W.heap.size (fun _ => True) v28 out
  tail : Kd.R (Kd.int .u8) 5 wx W.heap.size (fun _ => True) v31 tail
  apart : ∀ k, v31.ownBlock = some k → some k ≠ v28.ownBlock
  bel : Below W.heap.size W wx
namespace StD
variable {W wx w1 : World} {v28 v31 v1 : Value} {o t o' t' : List Int}
theorem below (h : StD W v28 v31 o t wx) (hb : Below wx.heap.size wx w1) : StD W v28 v31 o t w1 := ⟨Kd.R_below h.out hb, Kd.R_below h.tail hb, h.apart, h.bel.trans (hb.mono h.bel.size)⟩
theorem alloc (h : StD W v28 v31 o t wx) (ob : Obj) : StD W v28 v31 o t (wx.alloc ob) := h.below ((Below.refl _ _).alloc (Nat.le_refl _) ob)
theorem outs (h : StD W v28 v31 o t wx) (ho : Kd.R (Kd.int .u8) 5 w1 W.heap.size (fun _ => True) v1 o') (hb : Below W.heap.size W w1) (hg : wx.grownBy w1 v28.ownBlock) (hat : v1.ownBlock = v28.ownBlock ∨ ∃ b, v1.ownBlock = some b ∧ wx.heap.size ≤ b) : StD W v1 v31 o' t w1 :=
  have h2 := two_rows h.tail h.apart hg hat
  ⟨ho, h2.1, h2.2, hb⟩
theorem tails (h : StD W v28 v31 o t wx) (ho : Kd.R (Kd.int .u8) 5 w1 W.heap.size (fun _ => True) v1 t') (hb : Below W.heap.size W w1) (hg : wx.grownBy w1 v31.ownBlock) (hat : v1.ownBlock = v31.ownBlock ∨ ∃ b, v1.ownBlock = some b ∧ wx.heap.size ≤ b) : StD W v28 v1 o t' w1 :=
  have h2 := two_rows h.out (apart_symm h.apart) hg hat
  ⟨h2.1, ho, apart_symm h2.2, hb⟩
/-- A block that is none of theirs stays. -/
theorem keep {v : Value} {ys : List Int} {g : Nat} {o : Array Value} {q : TypeId} (hv : Kd.R (Kd.int .u8) 5 wx W.heap.size (fun _ => True) v ys) (hg : wx.grownBy w1 v.ownBlock) (hb : wx.heap[g]? = some (.cells o q (0, 0))) (hq : q ≠ 5) : w1.heap[g]? = some (.cells o q (0, 0)) :=
  (hg.block g (blk_lt hb) (Kd.R_ne hv hb (Ne.symm hq))).trans hb
end StD
/-- .. and a row's bytes besides. -/
structure StF (W : World) (v28 v31 v35 : Value) (out tail bs : List Int) (wx : World) : Prop where
  d : StD W v28 v31 out tail wx
  b : Kd.R (Kd.int .u8) 5 wx W.heap.size (fun _ => True) v35 bs
  ab : ∀ k, v35.ownBlock = some k → some k ≠ v28.ownBlock
  at_ : ∀ k, v35.ownBlock = some k → some k ≠ v31.ownBlock
namespace StF
variable {W wx w1 : World} {v28 v31 v35 v1 : Value} {o t b o' t' b' : List Int}
theorem below (h : StF W v28 v31 v35 o t b wx) (hb : Below wx.heap.size wx w1) : StF W v28 v31 v35 o t b w1 := ⟨h.d.below hb, Kd.R_below h.b hb, h.ab, h.at_⟩
theorem outs (h : StF W v28 v31 v35 o t b wx) (ho : Kd.R (Kd.int .u8) 5 w1 W.heap.size (fun _ => True) v1 o') (hb : Below W.heap.size W w1) (hg : wx.grownBy w1 v28.ownBlock) (hat : v1.ownBlock = v28.ownBlock ∨ ∃ k, v1.ownBlock = some k ∧ wx.heap.size ≤ k) : StF W v1 v31 v35 o' t b w1 :=
  have h2 := two_rows h.b h.ab hg hat
  ⟨h.d.outs ho hb hg hat, h2.1, h2.2, h.at_⟩
theorem tails (h : StF W v28 v31 v35 o t b wx) (ho : Kd.R (Kd.int .u8) 5 w1 W.heap.size (fun _ => True) v1 t') (hb : Below W.heap.size W w1) (hg : wx.grownBy w1 v31.ownBlock) (hat : v1.ownBlock = v31.ownBlock ∨ ∃ k, v1.ownBlock = some k ∧ wx.heap.size ≤ k) : StF W v28 v1 v35 o t' b w1 :=
  have h2 := two_rows h.b h.at_ hg hat
  ⟨h.d.tails ho hb hg hat, h2.1, h.ab, h2.2⟩
theorem bss (h : StF W v28 v31 v35 o t b wx) (ho : Kd.R (Kd.int .u8) 5 w1 W.heap.size (fun _ => True) v1 b') (hb : Below W.heap.size W w1) (hg : wx.grownBy w1 v35.ownBlock) (hat : v1.ownBlock = v35.ownBlock ∨ ∃ k, v1.ownBlock = some k ∧ wx.heap.size ≤ k) : StF W v28 v31 v1 o t b' w1 :=
  have h2 := two_rows h.d.out (apart_symm h.ab) hg hat
  have h3 := two_rows h.d.tail (apart_symm h.at_) hg hat
  ⟨⟨h2.1, h3.1, h.d.apart, hb⟩, ho, apart_symm h2.2, apart_symm h3.2⟩
end StF
theorem ent_cells {w : World} {g t : Nat} {a0 a1 a2 : Value} (h : w.heap[g]? = some (.cells #[a0, a1, a2] t (0, 0))) : w.cell? ⟨g, 0, none⟩ = some a0 ∧ w.cell? ⟨g, 1, none⟩ = some a1 ∧ w.cell? ⟨g, 2, none⟩ = some a2 :=
  ⟨(blk_cell h 0).trans rfl, (blk_cell h 1).trans rfl, (blk_cell h 2).trans rfl⟩
theorem C_cells {W : World} {A : Option Addr} {n : Nat} {kd : IntKind} {xs : List Int} (h : Kd.C (Kd.int kd) W A n xs) (hp : 0 < n) : ∃ ad, A = some ad ∧ ∀ j u, (nums kd xs)[j]? = some u → W.cell? (ad.add j) = some u := by
  have hr := Kd.reads_of_C (enc := Value.int kd) (d := (0 : Int)) h
  obtain ⟨ad, rfl, hc⟩ := hr.2.2 hp
  refine ⟨ad, rfl, fun j u hu => ?_⟩
  rw [nums, List.getElem?_map, Option.map_eq_some_iff] at hu
  obtain ⟨x, hx, rfl⟩ := hu
  obtain ⟨hj, hx'⟩ := List.getElem?_eq_some_iff.1 hx
  rw [hc j (by rw [hr.1] at hj; exact hj)]
  simp [List.getD_eq_getElem?_getD, hx]
theorem grows_R {w w' : World} {base : Nat} {v' : Value} (xs ys : List Int) {n : Nat} (hn : n = xs.length + ys.length) (h : w'.ownsRow w.heap.size 5 1 v' n (nums .u8 xs ++ nums .u8 ys)) (hb : base ≤ w.heap.size) : Kd.R (Kd.int .u8) 5 w' base (fun _ => True) v' (xs ++ ys) := by
  subst hn
  refine Kd.R_lower (Kd.R_of_own (h1 := fun _ => rfl) (ok := fun _ => True) ?_ (fun _ _ => trivial)) hb
  simpa [nums, encs] using h
theorem grown_below {w w' : World} (hg : w.grownBy w' none) : Below w.heap.size w w' := ⟨hg.os, hg.tape, hg.output, hg.size, fun k hk => hg.block k hk (by simp)⟩
theorem marked_cells (w : World) (x y : Int) : ∀ j u, (nums .u8 [x, y])[j]? = some u → (w.alloc (.cells #[.int .u8 x, .int .u8 y] 5 (2, 3))).cell? ((⟨w.heap.size, 0, none⟩ : Addr).add j) = some u := by
  intro j u hj
  rw [add_plain]
  have hb : (w.alloc (.cells #[.int .u8 x, .int .u8 y] 5 (2, 3))).heap[w.heap.size]? = some (.cells #[.int .u8 x, .int .u8 y] 5 (2, 3)) := heap_alloc_new w _
  rw [cell_of_row _ _ _ _ _ _ hb]
  match j, hj with
  | 0, hj => simpa [nums] using hj
  | 1, hj => simpa [nums] using hj
  | j + 2, hj => simp [nums] at hj
theorem flat_snoc (big : Bool) (w : Nat) (l : List Int) (j : Nat) (hj : j < l.length) : ((l.take (j + 1)).map (nb big w)).flatten = ((l.take j).map (nb big w)).flatten ++ nb big w (l.getD j 0) := by
  rw [List.take_succ_eq_append_getElem hj, List.map_append, List.flatten_append]
  simp [List.getD_eq_getElem?_getD, List.getElem?_eq_getElem hj]
theorem flat_len (big : Bool) (w : Nat) (l : List Int) : ((l.map (nb big w)).flatten).length = w * l.length := by
  induction l with
  | nil => simp
  | cons a l ih => rw [List.map_cons, List.flatten_cons, List.length_append, nb_length, ih, List.length_cons, Nat.mul_succ]; omega
theorem flat_le (big : Bool) (w : Nat) (hw : w = 2 ∨ w = 4) (l : List Int) (j : Nat) (hl : l.length ≤ 768) : (((l.take j).map (nb big w)).flatten).length ≤ 3072 := by
  rw [flat_len, List.length_take]
  rcases hw with rfl | rfl <;> omega
/-- A row more. -/
theorem dir_step (big : Bool) (mr : Nat) (es : List Ent) (k : Nat) (e : Ent) (he : es[k]? = some e) (RW TL : List Int) (h : (dirF big mr (es.take k)).1 = RW ∧ (dirF big mr (es.take k)).2 = TL) :
    (dirF big mr (es.take (k + 1))).1 = RW ++ e.row big (mr + TL.length) ∧ (dirF big mr (es.take (k + 1))).2 = e.behind big TL := by
  obtain ⟨hk, he'⟩ := List.getElem?_eq_some_iff.1 he
  rw [List.take_succ_eq_append_getElem hk, he', dirF_snoc, h.1, h.2]
  exact ⟨rfl, rfl⟩
theorem row_short (big : Bool) (at_ : Nat) (e : Ent) (P1 RW : List Int) (h : (e.bytes big).length ≤ 4) : P1 ++ (RW ++ e.row big at_) = ((((P1 ++ RW) ++ nb big 2 e.tag) ++ nb big 2 e.kind) ++ nb big 4 (e.nums.length : Int)) ++ (e.bytes big ++ List.replicate ((4 : Int) - ((e.bytes big).length : Int)).toNat 0) := by
  have e1 : ((4 : Int) - ((e.bytes big).length : Int)).toNat = 4 - (e.bytes big).length := by omega
  rw [e1]
  simp [Ent.row, Ent.last, h]
theorem row_long (big : Bool) (at_ : Nat) (e : Ent) (P1 RW : List Int) (v : Int) (hv : v = at_) (h : ¬ (e.bytes big).length ≤ 4) : P1 ++ (RW ++ e.row big at_) = ((((P1 ++ RW) ++ nb big 2 e.tag) ++ nb big 2 e.kind) ++ nb big 4 (e.nums.length : Int)) ++ nb big 4 v := by
  rw [hv]
  simp [Ent.row, Ent.last, h]
theorem behind_short (big : Bool) (TL : List Int) (e : Ent) (h : (e.bytes big).length ≤ 4) : e.behind big TL = TL := by simp [Ent.behind, h]
theorem behind_long (big : Bool) (TL : List Int) (e : Ent) (h : ¬ (e.bytes big).length ≤ 4) : e.behind big TL = if (TL ++ e.bytes big).length % 2 = 1 then (TL ++ e.bytes big) ++ [0] else TL ++ e.bytes big := by simp [Ent.behind, h, evenl]
/-- What spec.Write hands back: a file, of these rows. -/
def Written (W : World) (b0 : Bool) (wide high : Nat) (x3 x4 x5 x6 : Int) (b7 : Bool) (tw th rows ch : Nat) (ps : List S57) (e : Ending) (w' : World) : Prop :=
  ∃ (rs pl sz : List Int) (A : Option Addr) (c : Nat) (bs : List Int), (1 ≤ pl.length ∧ pl.length ≤ 40 ∧ sz.length = pl.length ∧ (∀ v ∈ pl, 0 ≤ v ∧ v < 20000000) ∧ (∀ v ∈ sz, 0 ≤ v ∧ v < 20000000)) ∧ rs.length ≤ 12000001 ∧
    bs = fileF b0 rs (entsOf wide high x3 x4 x5 x6 b7 tw th rows ch pl sz ps) ∧ bs.length ≤ 13000000 ∧ e = .returned (.slice A bs.length c) ∧ bs.length ≤ c ∧ Kd.C (Kd.int .u8) w' A bs.length bs ∧ Below W.heap.size W w'
theorem i52 : (Tryd.prog.info? 52).map (fun i => (i.zero, i.size, i.bytes)) = some (some (.agg #[.int .i64 0, .int .i64 0, .slice none 0 0]), 3, 40) := by kernel_rfl
end Go.Proofs.YtnodmobblamlgaaDoor
