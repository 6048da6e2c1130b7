/-
  NARROWER THAN 'FOR EVERY INPUT', by the rows' own cells (each row's printed sentence says how): FnEntries: laid · FnConfig: laid.
  DERIVED. THE GIVEN ROWS OF THIS SEAT. 2 by the template 'for every input the law returns true; each argument reads behind the call as it read before'; 0 by the template 'total and deterministic' (their statements: YtnodmobblamlgaaDoorTotals.lean).
  GIVEN WITH THE SEED: the statements are not yours to turn. If you find one false, say at which input.
  Laid BY PROGRAM, IN A SANDBOX (cutbox-rows.mjs): the forced cells as the released guide's own fill.sh prints them over the translation eb7998fa2baf0df8… (all of the seat's roots in one cut). By AI agents, Wed Nov 11 2026. No macro, syntax, notation, axiom, sorry.
-/
import Derived.Test.YtnodmobblamlgaaDoorChecked
import GoSem.Claim
import GoSem.ClaimJoined
import GoSem.ClaimMapViews
import Derived.JoinedTies
import Derived.KernelRfl
namespace Go.Proofs.YtnodmobblamlgaaDoor
/- THE CELL 'sum', in the pinned program and in every row, IS THE sha256 OF THE DUMP (.gsa) THAT YtnodmobblamlgaaDoorProg.lean LOADS. Nothing in Lean hashes anything: it is a label: what it is worth is what the hold of that sum in a sandbox is worth. -/
noncomputable def Tryd.pinned : Pinned := { name := "ytnodmobblamlgaadoor", sum := "eb7998fa2baf0df81c68d411186612f96e10c8143393e3f5ced0a9822e005e43", checked := Tryd.checked }
namespace Rows
def none {H : Type} : Left H := { results := [], args := [] }

/- WHAT THE LISTED PACKAGE-LEVEL VARIABLES READ AS WHEN THE CALL BEGINS. Each datum BY PROGRAM (the guide's laid-datum.mjs) off the statement by which the dump's own 'gosem.cut.vars' lays the variable. In a bare row this is a premise. The card (YtnodmobblamlgaaDoorCards.lean) ties it to the program's text. -/
def laid_io_EOF {H : Type} : DataW H := .iface "*errors.errorString" (.ptr (.agg [.lit (.string [69, 79, 70])]))
def laid_io_ErrUnexpectedEOF {H : Type} : DataW H := .iface "*errors.errorString" (.ptr (.agg [.lit (.string [117, 110, 101, 120, 112, 101, 99, 116, 101, 100, 32, 69, 79, 70])]))
def laid_loop_example_pub_g03432_pub_image_tiff_lengths {H : Type} : DataW H := .agg [.lit (.int .u32 0), .lit (.int .u32 1), .lit (.int .u32 1), .lit (.int .u32 2), .lit (.int .u32 4), .lit (.int .u32 8)]
def laid_errors_errorType {H : Type} : DataW H := .iface "internal/reflectlite.rtype" (.agg [.ptr (.lit (.string [101, 114, 114, 111, 114]))])

/-- 'laws.FnEntries': WHATEVER THE INPUT: true; the input reads as it did. -/
def fnEntriesSpec : ChangeSpec := { name := "fnEntries", vars := ["loop.example/pub-g03432/pub/image/tiff.lengths"], fn := fun _ => fun
  | [d1, d2, d3, g1] => { results := [.lit (.bool true)], args := [d1, d2, d3], vars := [g1] }
  | _ => none }
def fnEntriesRow : OpenClaim := { program := "ytnodmobblamlgaadoor", sum := "eb7998fa2baf0df81c68d411186612f96e10c8143393e3f5ced0a9822e005e43", func := "loop.example/pub-g03432/laws.FnEntries", spec := "fnEntries", unfollowed := true, recurses := true, named := ["io.EOF", "io.ErrUnexpectedEOF", "encoding/binary.LittleEndian", "encoding/binary.BigEndian", "loop.example/pub-g03432/pub/image/tiff.lengths"], apart := false, laid := [("io.EOF", laid_io_EOF), ("io.ErrUnexpectedEOF", laid_io_ErrUnexpectedEOF), ("loop.example/pub-g03432/pub/image/tiff.lengths", laid_loop_example_pub_g03432_pub_image_tiff_lengths)] }
def FnEntriesSaid : Prop := fnEntriesRow.holds Tryd.pinned (OpenSpec.ofChange fnEntriesSpec)

/-- ITS FALSE NEIGHBOUR: 'it returns false'. Refute it at one input. -/
def fnEntriesWrong : ChangeSpec := { name := "fnEntries", vars := ["loop.example/pub-g03432/pub/image/tiff.lengths"], fn := fun _ => fun
  | [d1, d2, d3, g1] => { results := [.lit (.bool false)], args := [d1, d2, d3], vars := [g1] }
  | _ => none }
def FnEntriesWrongFalsely : Prop := fnEntriesRow.holds Tryd.pinned (OpenSpec.ofChange fnEntriesWrong)

/-- 'laws.FnConfig': WHATEVER THE INPUT: true; the input reads as it did. -/
def fnConfigSpec : ChangeSpec := { name := "fnConfig", vars := ["loop.example/pub-g03432/pub/image/tiff.lengths"], fn := fun _ => fun
  | [d1, d2, d3, d4, g1] => { results := [.lit (.bool true)], args := [d1, d2, d3, d4], vars := [g1] }
  | _ => none }
def fnConfigRow : OpenClaim := { program := "ytnodmobblamlgaadoor", sum := "eb7998fa2baf0df81c68d411186612f96e10c8143393e3f5ced0a9822e005e43", func := "loop.example/pub-g03432/laws.FnConfig", spec := "fnConfig", inPlace := ["internal/reflectlite.ValueOf", "(internal/reflectlite.Value).Type", "(internal/reflectlite.Value).IsNil", "internal/reflectlite.TypeOf", "(internal/reflectlite.Value).Elem", "(internal/reflectlite.Value).Set"], unfollowed := true, recurses := true, named := ["io.EOF", "io.ErrUnexpectedEOF", "encoding/binary.LittleEndian", "encoding/binary.BigEndian", "loop.example/pub-g03432/pub/image/tiff.lengths", "errors.errorType"], apart := false, laid := [("errors.errorType", laid_errors_errorType), ("io.EOF", laid_io_EOF), ("io.ErrUnexpectedEOF", laid_io_ErrUnexpectedEOF), ("loop.example/pub-g03432/pub/image/tiff.lengths", laid_loop_example_pub_g03432_pub_image_tiff_lengths)] }
def FnConfigSaid : Prop := fnConfigRow.holds Tryd.pinned (OpenSpec.ofChange fnConfigSpec)

/-- ITS FALSE NEIGHBOUR: 'it returns false'. Refute it at one input. -/
def fnConfigWrong : ChangeSpec := { name := "fnConfig", vars := ["loop.example/pub-g03432/pub/image/tiff.lengths"], fn := fun _ => fun
  | [d1, d2, d3, d4, g1] => { results := [.lit (.bool false)], args := [d1, d2, d3, d4], vars := [g1] }
  | _ => none }
def FnConfigWrongFalsely : Prop := fnConfigRow.holds Tryd.pinned (OpenSpec.ofChange fnConfigWrong)

/- THE SECOND FORM. 'bulk': how many values and letters a reading holds, each counted each time it is reached (what is shared counts as often as it is met; a slice's spare places count too). A statement '..UptoSaid' is the law's where the arguments, and the package variables that the reading takes, are together of bulk at most 1048576: NARROWER than '..Said'. Prove '..Said' where nothing that the law and all that it calls make is longer than what came in: it says more and counts as full. Else prove '..UptoSaid'. A law counts once. -/
mutual
def uptoBulk {H : Type} : DataW H → Nat
  | .lit (.string bytes) => bytes.length + 1
  | .lit _ => 1
  | .nil => 1
  | .ptr d => uptoBulk d + 1
  | .slice elems spare => uptoBulkAll elems + uptoBulkAll spare + 1
  | .agg parts => uptoBulkAll parts + 1
  | .iface _ d => uptoBulk d + 1
  | .map entries => uptoBulkEntries entries + 1
  | .held _ => 1
def uptoBulkAll {H : Type} : List (DataW H) → Nat
  | [] => 0
  | d :: r => uptoBulk d + uptoBulkAll r
def uptoBulkEntries {H : Type} : List (Lit × DataW H) → Nat
  | [] => 0
  | x :: r => uptoBulkEntry x + uptoBulkEntries r
def uptoBulkEntry {H : Type} : Lit × DataW H → Nat
  | (.string bytes, d) => bytes.length + uptoBulk d + 1
  | (_, d) => uptoBulk d + 1
 end
def uptoSmall : (H : Type) → List (DataW H) → Bool := fun _ ds => decide (uptoBulkAll ds ≤ 1048576)
def OpenSpec.upto (s : _root_.Go.ChangeSpec) : _root_.Go.OpenSpec := { _root_.Go.OpenSpec.ofChange s with cond := some uptoSmall }

/-- 'laws.FnEntries', WHERE WHAT IT READS IS OF BULK AT MOST 1048576: true; the input reads as it did. -/
def fnEntriesUptoRow : OpenClaim := { program := "ytnodmobblamlgaadoor", sum := "eb7998fa2baf0df81c68d411186612f96e10c8143393e3f5ced0a9822e005e43", func := "loop.example/pub-g03432/laws.FnEntries", spec := "fnEntries", unfollowed := true, recurses := true, named := ["io.EOF", "io.ErrUnexpectedEOF", "encoding/binary.LittleEndian", "encoding/binary.BigEndian", "loop.example/pub-g03432/pub/image/tiff.lengths"], apart := false, laid := [("io.EOF", laid_io_EOF), ("io.ErrUnexpectedEOF", laid_io_ErrUnexpectedEOF), ("loop.example/pub-g03432/pub/image/tiff.lengths", laid_loop_example_pub_g03432_pub_image_tiff_lengths)], narrowed := true }
def FnEntriesUptoSaid : Prop := fnEntriesUptoRow.holds Tryd.pinned (OpenSpec.upto fnEntriesSpec)

/-- 'laws.FnConfig', WHERE WHAT IT READS IS OF BULK AT MOST 1048576: true; the input reads as it did. -/
def fnConfigUptoRow : OpenClaim := { program := "ytnodmobblamlgaadoor", sum := "eb7998fa2baf0df81c68d411186612f96e10c8143393e3f5ced0a9822e005e43", func := "loop.example/pub-g03432/laws.FnConfig", spec := "fnConfig", inPlace := ["internal/reflectlite.ValueOf", "(internal/reflectlite.Value).Type", "(internal/reflectlite.Value).IsNil", "internal/reflectlite.TypeOf", "(internal/reflectlite.Value).Elem", "(internal/reflectlite.Value).Set"], unfollowed := true, recurses := true, named := ["io.EOF", "io.ErrUnexpectedEOF", "encoding/binary.LittleEndian", "encoding/binary.BigEndian", "loop.example/pub-g03432/pub/image/tiff.lengths", "errors.errorType"], apart := false, laid := [("errors.errorType", laid_errors_errorType), ("io.EOF", laid_io_EOF), ("io.ErrUnexpectedEOF", laid_io_ErrUnexpectedEOF), ("loop.example/pub-g03432/pub/image/tiff.lengths", laid_loop_example_pub_g03432_pub_image_tiff_lengths)], narrowed := true }
def FnConfigUptoSaid : Prop := fnConfigUptoRow.holds Tryd.pinned (OpenSpec.upto fnConfigSpec)

end Rows
end Go.Proofs.YtnodmobblamlgaaDoor
