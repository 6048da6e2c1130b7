/- tiff's firstVal. -/
import Derived.Test.YtnodmobblamlgaaDoorKDecH
namespace Go.Proofs.YtnodmobblamlgaaDoor
open Go.RowKit Go.Proofs.YtnodmobblamlgaaDoorW.PrintWords Go.Proofs.YtnodmobblamlgaaDoorW.PrintLast Go.Proofs.YtnodmobblamlgaaDoorW.PrintMore
set_option linter.unusedVariables false
set_option linter.unusedSimpArgs false

set_option maxRecDepth 100000 in
set_option maxHeartbeats 1600000 in
theorem firstVal_any (d fm m gb len : Nat) (key : Int) (hkey : 0 ≤ key ∧ key < 65536) (f : Int → Option Value) (ys : List Int) (v : Int) (w : World) (h8 : w.cell? ⟨d, 8, none⟩ = some (.map (some fm))) (hI : IMap w fm m f) (hf : f key = some (.slice (some ⟨gb, 0, none⟩) len len)) (hC : Kd.C (Kd.int .u64) w (some ⟨gb, 0, none⟩) len ys) (hl : 1 ≤ len) (hv : ys[0]? = some v) :
    Calls Tryd.prog 44 #[.pointer (some ⟨d, 0, none⟩), .int .i64 key] w fun e w' => e = .returned (.int .u64 v) ∧ w = w' := by
  have hlook := hI.look Tryd.underlying87 (zero38 w) (K64.mk (show -9223372036854775808 ≤ key by omega) (by omega))
  rw [hf] at hlook
  have hlook2 : (Instr.lookup 87 (.map (some fm)) (.int .i64 key) false).run Tryd.prog w = .ok (.slice (some ⟨gb, 0, none⟩) len len) w := hlook
  obtain ⟨ad, e, hc⟩ := (Kd.reads_of_C (enc := Value.int .u64) (d := (0 : Int)) hC).2.2 (by omega)
  obtain rfl := Option.some.inj e
  have h0 := hc 0 (by omega)
  rw [add_plain, List.getD_eq_getElem?_getD, hv] at h0
  have h1 : w.cell? ⟨gb, 0, none⟩ = some (.int .u64 v) := h0
  have hne : ¬ ((len : Int) = 0) := by omega
  have hlt : (0 : Int) < (len : Int) := by omega
  clear hI hf hC hc h0 hlook hv
  go_enter Tryd.func44, Tryd.ntmps44
  go_wp2
  go_ret
  exact ⟨rfl, rfl⟩
/-- What the rows tell of a picture's form. -/
structure Cfg (es : List Ent) (wide high : Nat) (x3 x4 x5 : Int) (ch : Nat) : Prop where
  w : ∃ e ∈ es, e.tag = 256 ∧ e.nums = [(wide : Int)]
  h : ∃ e ∈ es, e.tag = 257 ∧ e.nums = [(high : Int)]
  b : ∃ e ∈ es, e.tag = 258 ∧ e.nums = List.replicate ch x5
  p : ∃ e ∈ es, e.tag = 262 ∧ e.nums = [x3]
  x : x4 ≠ 0 → ∃ e ∈ es, e.tag = 338 ∧ e.nums = [x4]
/-- The first number of a row that is kept, whatever has been stored into the decoder's own cells since. -/
theorem feat_first {wr : World} {fm n : Nat} {es : List Ent} (h : Feat wr fm n es) (key v : Int) (hkey : stored key) (ys : List Int) (he : ∃ e ∈ es, e.tag = key ∧ e.nums = ys) (hv : ys[0]? = some v) :
    ∀ w, Turn (fun k => k = fm + 1) wr w → w.cell? ⟨fm + 1, 8, none⟩ = some (.map (some fm)) → Calls Tryd.prog 44 #[.pointer (some ⟨fm + 1, 0, none⟩), .int .i64 key] w fun e w' => e = .returned (.int .u64 v) ∧ w = w' := by
  intro w hT h8
  obtain ⟨f, hI, _, h2⟩ := h
  obtain ⟨e, hm, rfl, rfl⟩ := he
  obtain ⟨gb, a, b, c, d⟩ := h2 e hm hkey
  have hk : 0 ≤ e.tag ∧ e.tag < 65536 := by unfold stored at hkey; omega
  have hl : 1 ≤ e.nums.length := by
    have := (List.getElem?_eq_some_iff.1 hv).elim fun h _ => h
    omega
  exact firstVal_any (fm + 1) fm n gb e.nums.length e.tag hk f e.nums v w h8 (hT.imap hI (by omega)) a (C_at_blk b (hT.far gb (C_at_lt b hl) d)) hl hv
end Go.Proofs.YtnodmobblamlgaaDoor
