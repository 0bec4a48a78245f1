/-
  NARROWER THAN 'FOR EVERY INPUT', by the rows' own cells (each row's printed sentence says how): FnBuilt: ifaces, laid · FnAny: ifaces, laid · FnForms: ifaces, laid.
  DERIVED. THE GIVEN ROWS OF THIS SEAT. 3 by the template 'for every input the law returns true; each argument reads behind the call as it read before'; 0 by the template 'total and deterministic' (their statements: YtfhkkojdaejnjaaDoorTotals.lean).
  GIVEN WITH THE SEED: the statements are not yours to turn. If you find one false, say at which input.
  Laid BY PROGRAM, IN A SANDBOX (cutbox-rows.mjs): the forced cells as the released guide's own fill.sh prints them over the translation 9be1c3841c428cd3… (all of the seat's roots in one cut). By AI agents, Wed Nov 11 2026. No macro, syntax, notation, axiom, sorry.
-/
import Derived.Test.YtfhkkojdaejnjaaDoorChecked
import GoSem.Claim
import GoSem.ClaimJoined
import GoSem.ClaimMapViews
import Derived.JoinedTies
import Derived.KernelRfl
namespace Go.Proofs.YtfhkkojdaejnjaaDoor
/- THE CELL 'sum', in the pinned program and in every row, IS THE sha256 OF THE DUMP (.gsa) THAT YtfhkkojdaejnjaaDoorProg.lean LOADS. Nothing in Lean hashes anything: it is a label: what it is worth is what the hold of that sum in a sandbox is worth. -/
noncomputable def Tryd.pinned : Pinned := { name := "ytfhkkojdaejnjaadoor", sum := "9be1c3841c428cd3a7136a77c57a232b6fde248a9593634223dbfc14b5654f3c", checked := Tryd.checked }
namespace Rows
def none {H : Type} : Left H := { results := [], args := [] }

/- WHAT THE LISTED PACKAGE-LEVEL VARIABLES READ AS WHEN THE CALL BEGINS. Each datum BY PROGRAM (the guide's laid-datum.mjs) off the statement by which the dump's own 'gosem.cut.vars' lays the variable. In a bare row this is a premise. The card (YtfhkkojdaejnjaaDoorCards.lean) ties it to the program's text. -/
def laid_io_EOF {H : Type} : DataW H := .iface "*errors.errorString" (.ptr (.agg [.lit (.string [69, 79, 70])]))
def laid_loop_example_pub_g03073_pub_gcs_ErrNTooBig {H : Type} : DataW H := .iface "*errors.errorString" (.ptr (.agg [.lit (.string [78, 32, 105, 115, 32, 116, 111, 111, 32, 98, 105, 103, 32, 116, 111, 32, 102, 105, 116, 32, 105, 110, 32, 117, 105, 110, 116, 51, 50])]))
def laid_loop_example_pub_g03073_pub_gcs_ErrPTooBig {H : Type} : DataW H := .iface "*errors.errorString" (.ptr (.agg [.lit (.string [80, 32, 105, 115, 32, 116, 111, 111, 32, 98, 105, 103, 32, 116, 111, 32, 102, 105, 116, 32, 105, 110, 32, 117, 105, 110, 116, 51, 50])]))
def laid_io_ErrUnexpectedEOF {H : Type} : DataW H := .iface "*errors.errorString" (.ptr (.agg [.lit (.string [117, 110, 101, 120, 112, 101, 99, 116, 101, 100, 32, 69, 79, 70])]))

/-- 'laws.FnBuilt': WHATEVER THE INPUT: true; the input reads as it did. -/
def fnBuiltSpec : ChangeSpec := { name := "fnBuilt", vars := ["loop.example/pub-g03073/pub/gcs.ErrNTooBig", "loop.example/pub-g03073/pub/gcs.ErrPTooBig"], fn := fun _ => fun
  | [d1, d2, d3, d4, g1, g2] => { results := [.lit (.bool true)], args := [d1, d2, d3, d4], vars := [g1, g2] }
  | _ => none }
def fnBuiltRow : OpenClaim := { program := "ytfhkkojdaejnjaadoor", sum := "9be1c3841c428cd3a7136a77c57a232b6fde248a9593634223dbfc14b5654f3c", func := "loop.example/pub-g03073/laws.FnBuilt", spec := "fnBuilt", recurses := true, named := ["loop.example/pub-g03073/pub/gcs.ErrNTooBig", "loop.example/pub-g03073/pub/gcs.ErrPTooBig", "encoding/binary.LittleEndian", "io.EOF"], ifaces := true, apart := false, laid := [("io.EOF", laid_io_EOF), ("loop.example/pub-g03073/pub/gcs.ErrNTooBig", laid_loop_example_pub_g03073_pub_gcs_ErrNTooBig), ("loop.example/pub-g03073/pub/gcs.ErrPTooBig", laid_loop_example_pub_g03073_pub_gcs_ErrPTooBig)] }
def FnBuiltSaid : Prop := fnBuiltRow.holds Tryd.pinned (OpenSpec.ofChange fnBuiltSpec)

/-- ITS FALSE NEIGHBOUR: 'it returns false'. Refute it at one input. -/
def fnBuiltWrong : ChangeSpec := { name := "fnBuilt", vars := ["loop.example/pub-g03073/pub/gcs.ErrNTooBig", "loop.example/pub-g03073/pub/gcs.ErrPTooBig"], fn := fun _ => fun
  | [d1, d2, d3, d4, g1, g2] => { results := [.lit (.bool false)], args := [d1, d2, d3, d4], vars := [g1, g2] }
  | _ => none }
def FnBuiltWrongFalsely : Prop := fnBuiltRow.holds Tryd.pinned (OpenSpec.ofChange fnBuiltWrong)

/-- 'laws.FnAny': WHATEVER THE INPUT: true; the input reads as it did. -/
def fnAnySpec : ChangeSpec := { name := "fnAny", vars := ["loop.example/pub-g03073/pub/gcs.ErrNTooBig", "loop.example/pub-g03073/pub/gcs.ErrPTooBig"], fn := fun _ => fun
  | [d1, d2, d3, d4, d5, d6, g1, g2] => { results := [.lit (.bool true)], args := [d1, d2, d3, d4, d5, d6], vars := [g1, g2] }
  | _ => none }
def fnAnyRow : OpenClaim := { program := "ytfhkkojdaejnjaadoor", sum := "9be1c3841c428cd3a7136a77c57a232b6fde248a9593634223dbfc14b5654f3c", func := "loop.example/pub-g03073/laws.FnAny", spec := "fnAny", recurses := true, named := ["loop.example/pub-g03073/pub/gcs.ErrNTooBig", "loop.example/pub-g03073/pub/gcs.ErrPTooBig", "encoding/binary.LittleEndian", "io.EOF"], ifaces := true, apart := false, laid := [("io.EOF", laid_io_EOF), ("loop.example/pub-g03073/pub/gcs.ErrNTooBig", laid_loop_example_pub_g03073_pub_gcs_ErrNTooBig), ("loop.example/pub-g03073/pub/gcs.ErrPTooBig", laid_loop_example_pub_g03073_pub_gcs_ErrPTooBig)] }
def FnAnySaid : Prop := fnAnyRow.holds Tryd.pinned (OpenSpec.ofChange fnAnySpec)

/-- ITS FALSE NEIGHBOUR: 'it returns false'. Refute it at one input. -/
def fnAnyWrong : ChangeSpec := { name := "fnAny", vars := ["loop.example/pub-g03073/pub/gcs.ErrNTooBig", "loop.example/pub-g03073/pub/gcs.ErrPTooBig"], fn := fun _ => fun
  | [d1, d2, d3, d4, d5, d6, g1, g2] => { results := [.lit (.bool false)], args := [d1, d2, d3, d4, d5, d6], vars := [g1, g2] }
  | _ => none }
def FnAnyWrongFalsely : Prop := fnAnyRow.holds Tryd.pinned (OpenSpec.ofChange fnAnyWrong)

/-- 'laws.FnForms': WHATEVER THE INPUT: true; the input reads as it did. -/
def fnFormsSpec : ChangeSpec := { name := "fnForms", vars := ["loop.example/pub-g03073/pub/gcs.ErrPTooBig", "loop.example/pub-g03073/pub/gcs.ErrNTooBig"], fn := fun _ => fun
  | [d1, d2, d3, d4, g1, g2] => { results := [.lit (.bool true)], args := [d1, d2, d3, d4], vars := [g1, g2] }
  | _ => none }
def fnFormsRow : OpenClaim := { program := "ytfhkkojdaejnjaadoor", sum := "9be1c3841c428cd3a7136a77c57a232b6fde248a9593634223dbfc14b5654f3c", func := "loop.example/pub-g03073/laws.FnForms", spec := "fnForms", named := ["loop.example/pub-g03073/pub/gcs.ErrPTooBig", "encoding/binary.LittleEndian", "loop.example/pub-g03073/pub/gcs.ErrNTooBig", "io.EOF", "io.ErrUnexpectedEOF"], ifaces := true, apart := false, laid := [("io.EOF", laid_io_EOF), ("io.ErrUnexpectedEOF", laid_io_ErrUnexpectedEOF), ("loop.example/pub-g03073/pub/gcs.ErrNTooBig", laid_loop_example_pub_g03073_pub_gcs_ErrNTooBig), ("loop.example/pub-g03073/pub/gcs.ErrPTooBig", laid_loop_example_pub_g03073_pub_gcs_ErrPTooBig)] }
def FnFormsSaid : Prop := fnFormsRow.holds Tryd.pinned (OpenSpec.ofChange fnFormsSpec)

/-- ITS FALSE NEIGHBOUR: 'it returns false'. Refute it at one input. -/
def fnFormsWrong : ChangeSpec := { name := "fnForms", vars := ["loop.example/pub-g03073/pub/gcs.ErrPTooBig", "loop.example/pub-g03073/pub/gcs.ErrNTooBig"], fn := fun _ => fun
  | [d1, d2, d3, d4, g1, g2] => { results := [.lit (.bool false)], args := [d1, d2, d3, d4], vars := [g1, g2] }
  | _ => none }
def FnFormsWrongFalsely : Prop := fnFormsRow.holds Tryd.pinned (OpenSpec.ofChange fnFormsWrong)

/- THE SECOND FORM. 'bulk': how many values and letters a reading holds, each counted each time it is reached (what is shared counts as often as it is met; a slice's spare places count too). A statement '..UptoSaid' is the law's where the arguments, and the package variables that the reading takes, are together of bulk at most 1048576: NARROWER than '..Said'. Prove '..Said' where nothing that the law and all that it calls make is longer than what came in: it says more and counts as full. Else prove '..UptoSaid'. A law counts once. -/
mutual
def uptoBulk {H : Type} : DataW H → Nat
  | .lit (.string bytes) => bytes.length + 1
  | .lit _ => 1
  | .nil => 1
  | .ptr d => uptoBulk d + 1
  | .slice elems spare => uptoBulkAll elems + uptoBulkAll spare + 1
  | .agg parts => uptoBulkAll parts + 1
  | .iface _ d => uptoBulk d + 1
  | .map entries => uptoBulkEntries entries + 1
  | .held _ => 1
def uptoBulkAll {H : Type} : List (DataW H) → Nat
  | [] => 0
  | d :: r => uptoBulk d + uptoBulkAll r
def uptoBulkEntries {H : Type} : List (Lit × DataW H) → Nat
  | [] => 0
  | x :: r => uptoBulkEntry x + uptoBulkEntries r
def uptoBulkEntry {H : Type} : Lit × DataW H → Nat
  | (.string bytes, d) => bytes.length + uptoBulk d + 1
  | (_, d) => uptoBulk d + 1
 end
def uptoSmall : (H : Type) → List (DataW H) → Bool := fun _ ds => decide (uptoBulkAll ds ≤ 1048576)
def OpenSpec.upto (s : _root_.Go.ChangeSpec) : _root_.Go.OpenSpec := { _root_.Go.OpenSpec.ofChange s with cond := some uptoSmall }

/-- 'laws.FnBuilt', WHERE WHAT IT READS IS OF BULK AT MOST 1048576: true; the input reads as it did. -/
def fnBuiltUptoRow : OpenClaim := { program := "ytfhkkojdaejnjaadoor", sum := "9be1c3841c428cd3a7136a77c57a232b6fde248a9593634223dbfc14b5654f3c", func := "loop.example/pub-g03073/laws.FnBuilt", spec := "fnBuilt", recurses := true, named := ["loop.example/pub-g03073/pub/gcs.ErrNTooBig", "loop.example/pub-g03073/pub/gcs.ErrPTooBig", "encoding/binary.LittleEndian", "io.EOF"], ifaces := true, apart := false, laid := [("io.EOF", laid_io_EOF), ("loop.example/pub-g03073/pub/gcs.ErrNTooBig", laid_loop_example_pub_g03073_pub_gcs_ErrNTooBig), ("loop.example/pub-g03073/pub/gcs.ErrPTooBig", laid_loop_example_pub_g03073_pub_gcs_ErrPTooBig)], narrowed := true }
def FnBuiltUptoSaid : Prop := fnBuiltUptoRow.holds Tryd.pinned (OpenSpec.upto fnBuiltSpec)

/-- 'laws.FnAny', WHERE WHAT IT READS IS OF BULK AT MOST 1048576: true; the input reads as it did. -/
def fnAnyUptoRow : OpenClaim := { program := "ytfhkkojdaejnjaadoor", sum := "9be1c3841c428cd3a7136a77c57a232b6fde248a9593634223dbfc14b5654f3c", func := "loop.example/pub-g03073/laws.FnAny", spec := "fnAny", recurses := true, named := ["loop.example/pub-g03073/pub/gcs.ErrNTooBig", "loop.example/pub-g03073/pub/gcs.ErrPTooBig", "encoding/binary.LittleEndian", "io.EOF"], ifaces := true, apart := false, laid := [("io.EOF", laid_io_EOF), ("loop.example/pub-g03073/pub/gcs.ErrNTooBig", laid_loop_example_pub_g03073_pub_gcs_ErrNTooBig), ("loop.example/pub-g03073/pub/gcs.ErrPTooBig", laid_loop_example_pub_g03073_pub_gcs_ErrPTooBig)], narrowed := true }
def FnAnyUptoSaid : Prop := fnAnyUptoRow.holds Tryd.pinned (OpenSpec.upto fnAnySpec)

/-- 'laws.FnForms', WHERE WHAT IT READS IS OF BULK AT MOST 1048576: true; the input reads as it did. -/
def fnFormsUptoRow : OpenClaim := { program := "ytfhkkojdaejnjaadoor", sum := "9be1c3841c428cd3a7136a77c57a232b6fde248a9593634223dbfc14b5654f3c", func := "loop.example/pub-g03073/laws.FnForms", spec := "fnForms", named := ["loop.example/pub-g03073/pub/gcs.ErrPTooBig", "encoding/binary.LittleEndian", "loop.example/pub-g03073/pub/gcs.ErrNTooBig", "io.EOF", "io.ErrUnexpectedEOF"], ifaces := true, apart := false, laid := [("io.EOF", laid_io_EOF), ("io.ErrUnexpectedEOF", laid_io_ErrUnexpectedEOF), ("loop.example/pub-g03073/pub/gcs.ErrNTooBig", laid_loop_example_pub_g03073_pub_gcs_ErrNTooBig), ("loop.example/pub-g03073/pub/gcs.ErrPTooBig", laid_loop_example_pub_g03073_pub_gcs_ErrPTooBig)], narrowed := true }
def FnFormsUptoSaid : Prop := fnFormsUptoRow.holds Tryd.pinned (OpenSpec.upto fnFormsSpec)

end Rows
end Go.Proofs.YtfhkkojdaejnjaaDoor
