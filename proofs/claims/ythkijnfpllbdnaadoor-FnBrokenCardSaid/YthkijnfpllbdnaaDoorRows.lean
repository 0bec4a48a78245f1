/-
  NARROWER THAN 'FOR EVERY INPUT', by the rows' own cells (each row's printed sentence says how): FnUnBech32: laid · FnBroken: laid · FnBech32: laid.
  DERIVED. THE GIVEN ROWS OF THIS SEAT. 3 by the template 'for every input the law returns true; each argument reads behind the call as it read before'; 0 by the template 'total and deterministic' (their statements: YthkijnfpllbdnaaDoorTotals.lean).
  GIVEN WITH THE SEED: the statements are not yours to turn. If you find one false, say at which input.
  Laid BY PROGRAM, IN A SANDBOX (cutbox-rows.mjs): the forced cells as the released guide's own fill.sh prints them over the translation 2a9a7f10c5f215b5… (all of the seat's roots in one cut). By AI agents, Wed Nov 11 2026. No macro, syntax, notation, axiom, sorry.
-/
import Derived.Test.YthkijnfpllbdnaaDoorChecked
import GoSem.PinnedTables
import GoSem.Claim
import GoSem.ClaimJoined
import GoSem.ClaimMapViews
import Derived.JoinedTies
import Derived.KernelRfl
namespace Go.Proofs.YthkijnfpllbdnaaDoor
/- THE CELL 'sum', in the pinned program and in every row, IS THE sha256 OF THE DUMP (.gsa) THAT YthkijnfpllbdnaaDoorProg.lean LOADS. Nothing in Lean hashes anything: it is a label: what it is worth is what the hold of that sum in a sandbox is worth. -/
noncomputable def Tryd.pinned : Pinned := { name := "ythkijnfpllbdnaadoor", sum := "2a9a7f10c5f215b5c94065a9bb4804f9ee6b726e8a6eaf82166e3dc234a6aee6", checked := Tryd.checked }
namespace Rows
def none {H : Type} : Left H := { results := [], args := [] }

/- WHAT THE LISTED PACKAGE-LEVEL VARIABLES READ AS WHEN THE CALL BEGINS. Each datum BY PROGRAM (the guide's laid-datum.mjs) off the statement by which the dump's own 'gosem.cut.vars' lays the variable. In a bare row this is a premise. The card (YthkijnfpllbdnaaDoorCards.lean) ties it to the program's text. -/
def laid_unicode_utf8_acceptRanges {H : Type} : DataW H := .agg [.agg [.lit (.int .u8 128), .lit (.int .u8 191)], .agg [.lit (.int .u8 160), .lit (.int .u8 191)], .agg [.lit (.int .u8 128), .lit (.int .u8 159)], .agg [.lit (.int .u8 144), .lit (.int .u8 191)], .agg [.lit (.int .u8 128), .lit (.int .u8 143)], .agg [.lit (.int .u8 0), .lit (.int .u8 0)], .agg [.lit (.int .u8 0), .lit (.int .u8 0)], .agg [.lit (.int .u8 0), .lit (.int .u8 0)], .agg [.lit (.int .u8 0), .lit (.int .u8 0)], .agg [.lit (.int .u8 0), .lit (.int .u8 0)], .agg [.lit (.int .u8 0), .lit (.int .u8 0)], .agg [.lit (.int .u8 0), .lit (.int .u8 0)], .agg [.lit (.int .u8 0), .lit (.int .u8 0)], .agg [.lit (.int .u8 0), .lit (.int .u8 0)], .agg [.lit (.int .u8 0), .lit (.int .u8 0)], .agg [.lit (.int .u8 0), .lit (.int .u8 0)]]
def laid_loop_example_pub_g03073_pub_bech32_gen {H : Type} : DataW H := .agg [.lit (.int .i64 996825010), .lit (.int .i64 642813549), .lit (.int .i64 513874426), .lit (.int .i64 1027748829), .lit (.int .i64 705979059)]
/-- One of Go's own tables, pinned by name: the form's constant. -/
def laid_unicode_CaseRanges : DataW Unit := Go.Pinned.caseRanges
/-- One of Go's own tables, pinned by name: the form's constant. -/
def laid_unicode_utf8_first : DataW Unit := Go.Pinned.utf8First

/-- 'laws.FnUnBech32': WHATEVER THE INPUT: true; the input reads as it did. -/
def fnUnBech32Spec : ChangeSpec := { name := "fnUnBech32", vars := ["loop.example/pub-g03073/pub/bech32.gen"], fn := fun _ => fun
  | [d, g1] => { results := [.lit (.bool true)], args := [d], vars := [g1] }
  | _ => none }
def fnUnBech32Row : OpenClaim := { program := "ythkijnfpllbdnaadoor", sum := "2a9a7f10c5f215b5c94065a9bb4804f9ee6b726e8a6eaf82166e3dc234a6aee6", func := "loop.example/pub-g03073/laws.FnUnBech32", spec := "fnUnBech32", inPlace := ["internal/abi.NoEscape", "internal/bytealg.MakeNoZero"], unfollowed := true, recurses := true, named := ["unicode/utf8.first", "unicode/utf8.acceptRanges", "unicode.CaseRanges", "loop.example/pub-g03073/pub/bech32.gen"], apart := false, laid := [("unicode/utf8.acceptRanges", laid_unicode_utf8_acceptRanges), ("loop.example/pub-g03073/pub/bech32.gen", laid_loop_example_pub_g03073_pub_bech32_gen), ("unicode.CaseRanges", laid_unicode_CaseRanges), ("unicode/utf8.first", laid_unicode_utf8_first)] }
def FnUnBech32Said : Prop := fnUnBech32Row.holds Tryd.pinned (OpenSpec.ofChange fnUnBech32Spec)

/-- ITS FALSE NEIGHBOUR: 'it returns false'. Refute it at one input. -/
def fnUnBech32Wrong : ChangeSpec := { name := "fnUnBech32", vars := ["loop.example/pub-g03073/pub/bech32.gen"], fn := fun _ => fun
  | [d, g1] => { results := [.lit (.bool false)], args := [d], vars := [g1] }
  | _ => none }
def FnUnBech32WrongFalsely : Prop := fnUnBech32Row.holds Tryd.pinned (OpenSpec.ofChange fnUnBech32Wrong)

/-- 'laws.FnBroken': WHATEVER THE INPUT: true; the input reads as it did. -/
def fnBrokenSpec : ChangeSpec := { name := "fnBroken", vars := ["loop.example/pub-g03073/pub/bech32.gen"], fn := fun _ => fun
  | [d1, d2, d3, d4, g1] => { results := [.lit (.bool true)], args := [d1, d2, d3, d4], vars := [g1] }
  | _ => none }
def fnBrokenRow : OpenClaim := { program := "ythkijnfpllbdnaadoor", sum := "2a9a7f10c5f215b5c94065a9bb4804f9ee6b726e8a6eaf82166e3dc234a6aee6", func := "loop.example/pub-g03073/laws.FnBroken", spec := "fnBroken", inPlace := ["internal/abi.NoEscape", "internal/bytealg.MakeNoZero"], unfollowed := true, recurses := true, named := ["unicode/utf8.first", "unicode/utf8.acceptRanges", "unicode.CaseRanges", "loop.example/pub-g03073/pub/bech32.gen"], apart := false, laid := [("unicode/utf8.acceptRanges", laid_unicode_utf8_acceptRanges), ("loop.example/pub-g03073/pub/bech32.gen", laid_loop_example_pub_g03073_pub_bech32_gen), ("unicode.CaseRanges", laid_unicode_CaseRanges), ("unicode/utf8.first", laid_unicode_utf8_first)] }
def FnBrokenSaid : Prop := fnBrokenRow.holds Tryd.pinned (OpenSpec.ofChange fnBrokenSpec)

/-- ITS FALSE NEIGHBOUR: 'it returns false'. Refute it at one input. -/
def fnBrokenWrong : ChangeSpec := { name := "fnBroken", vars := ["loop.example/pub-g03073/pub/bech32.gen"], fn := fun _ => fun
  | [d1, d2, d3, d4, g1] => { results := [.lit (.bool false)], args := [d1, d2, d3, d4], vars := [g1] }
  | _ => none }
def FnBrokenWrongFalsely : Prop := fnBrokenRow.holds Tryd.pinned (OpenSpec.ofChange fnBrokenWrong)

/-- 'laws.FnBech32': WHATEVER THE INPUT: true; the input reads as it did. -/
def fnBech32Spec : ChangeSpec := { name := "fnBech32", vars := ["loop.example/pub-g03073/pub/bech32.gen"], fn := fun _ => fun
  | [d1, d2, g1] => { results := [.lit (.bool true)], args := [d1, d2], vars := [g1] }
  | _ => none }
def fnBech32Row : OpenClaim := { program := "ythkijnfpllbdnaadoor", sum := "2a9a7f10c5f215b5c94065a9bb4804f9ee6b726e8a6eaf82166e3dc234a6aee6", func := "loop.example/pub-g03073/laws.FnBech32", spec := "fnBech32", inPlace := ["internal/abi.NoEscape", "internal/bytealg.MakeNoZero"], unfollowed := true, recurses := true, named := ["loop.example/pub-g03073/pub/bech32.gen", "unicode/utf8.first", "unicode/utf8.acceptRanges", "unicode.CaseRanges"], apart := false, laid := [("unicode/utf8.acceptRanges", laid_unicode_utf8_acceptRanges), ("loop.example/pub-g03073/pub/bech32.gen", laid_loop_example_pub_g03073_pub_bech32_gen), ("unicode.CaseRanges", laid_unicode_CaseRanges), ("unicode/utf8.first", laid_unicode_utf8_first)] }
def FnBech32Said : Prop := fnBech32Row.holds Tryd.pinned (OpenSpec.ofChange fnBech32Spec)

/-- ITS FALSE NEIGHBOUR: 'it returns false'. Refute it at one input. -/
def fnBech32Wrong : ChangeSpec := { name := "fnBech32", vars := ["loop.example/pub-g03073/pub/bech32.gen"], fn := fun _ => fun
  | [d1, d2, g1] => { results := [.lit (.bool false)], args := [d1, d2], vars := [g1] }
  | _ => none }
def FnBech32WrongFalsely : Prop := fnBech32Row.holds Tryd.pinned (OpenSpec.ofChange fnBech32Wrong)

/- THE SECOND FORM. 'bulk': how many values and letters a reading holds, each counted each time it is reached (what is shared counts as often as it is met; a slice's spare places count too). A statement '..UptoSaid' is the law's where the arguments, and the package variables that the reading takes, are together of bulk at most 1048576: NARROWER than '..Said'. Prove '..Said' where nothing that the law and all that it calls make is longer than what came in: it says more and counts as full. Else prove '..UptoSaid'. A law counts once. -/
mutual
def uptoBulk {H : Type} : DataW H → Nat
  | .lit (.string bytes) => bytes.length + 1
  | .lit _ => 1
  | .nil => 1
  | .ptr d => uptoBulk d + 1
  | .slice elems spare => uptoBulkAll elems + uptoBulkAll spare + 1
  | .agg parts => uptoBulkAll parts + 1
  | .iface _ d => uptoBulk d + 1
  | .map entries => uptoBulkEntries entries + 1
  | .held _ => 1
def uptoBulkAll {H : Type} : List (DataW H) → Nat
  | [] => 0
  | d :: r => uptoBulk d + uptoBulkAll r
def uptoBulkEntries {H : Type} : List (Lit × DataW H) → Nat
  | [] => 0
  | x :: r => uptoBulkEntry x + uptoBulkEntries r
def uptoBulkEntry {H : Type} : Lit × DataW H → Nat
  | (.string bytes, d) => bytes.length + uptoBulk d + 1
  | (_, d) => uptoBulk d + 1
 end
def uptoSmall : (H : Type) → List (DataW H) → Bool := fun _ ds => decide (uptoBulkAll ds ≤ 1048576)
def OpenSpec.upto (s : _root_.Go.ChangeSpec) : _root_.Go.OpenSpec := { _root_.Go.OpenSpec.ofChange s with cond := some uptoSmall }

/-- 'laws.FnUnBech32', WHERE WHAT IT READS IS OF BULK AT MOST 1048576: true; the input reads as it did. -/
def fnUnBech32UptoRow : OpenClaim := { program := "ythkijnfpllbdnaadoor", sum := "2a9a7f10c5f215b5c94065a9bb4804f9ee6b726e8a6eaf82166e3dc234a6aee6", func := "loop.example/pub-g03073/laws.FnUnBech32", spec := "fnUnBech32", inPlace := ["internal/abi.NoEscape", "internal/bytealg.MakeNoZero"], unfollowed := true, recurses := true, named := ["unicode/utf8.first", "unicode/utf8.acceptRanges", "unicode.CaseRanges", "loop.example/pub-g03073/pub/bech32.gen"], apart := false, laid := [("unicode/utf8.acceptRanges", laid_unicode_utf8_acceptRanges), ("loop.example/pub-g03073/pub/bech32.gen", laid_loop_example_pub_g03073_pub_bech32_gen), ("unicode.CaseRanges", laid_unicode_CaseRanges), ("unicode/utf8.first", laid_unicode_utf8_first)], narrowed := true }
def FnUnBech32UptoSaid : Prop := fnUnBech32UptoRow.holds Tryd.pinned (OpenSpec.upto fnUnBech32Spec)

/-- 'laws.FnBroken', WHERE WHAT IT READS IS OF BULK AT MOST 1048576: true; the input reads as it did. -/
def fnBrokenUptoRow : OpenClaim := { program := "ythkijnfpllbdnaadoor", sum := "2a9a7f10c5f215b5c94065a9bb4804f9ee6b726e8a6eaf82166e3dc234a6aee6", func := "loop.example/pub-g03073/laws.FnBroken", spec := "fnBroken", inPlace := ["internal/abi.NoEscape", "internal/bytealg.MakeNoZero"], unfollowed := true, recurses := true, named := ["unicode/utf8.first", "unicode/utf8.acceptRanges", "unicode.CaseRanges", "loop.example/pub-g03073/pub/bech32.gen"], apart := false, laid := [("unicode/utf8.acceptRanges", laid_unicode_utf8_acceptRanges), ("loop.example/pub-g03073/pub/bech32.gen", laid_loop_example_pub_g03073_pub_bech32_gen), ("unicode.CaseRanges", laid_unicode_CaseRanges), ("unicode/utf8.first", laid_unicode_utf8_first)], narrowed := true }
def FnBrokenUptoSaid : Prop := fnBrokenUptoRow.holds Tryd.pinned (OpenSpec.upto fnBrokenSpec)

/-- 'laws.FnBech32', WHERE WHAT IT READS IS OF BULK AT MOST 1048576: true; the input reads as it did. -/
def fnBech32UptoRow : OpenClaim := { program := "ythkijnfpllbdnaadoor", sum := "2a9a7f10c5f215b5c94065a9bb4804f9ee6b726e8a6eaf82166e3dc234a6aee6", func := "loop.example/pub-g03073/laws.FnBech32", spec := "fnBech32", inPlace := ["internal/abi.NoEscape", "internal/bytealg.MakeNoZero"], unfollowed := true, recurses := true, named := ["loop.example/pub-g03073/pub/bech32.gen", "unicode/utf8.first", "unicode/utf8.acceptRanges", "unicode.CaseRanges"], apart := false, laid := [("unicode/utf8.acceptRanges", laid_unicode_utf8_acceptRanges), ("loop.example/pub-g03073/pub/bech32.gen", laid_loop_example_pub_g03073_pub_bech32_gen), ("unicode.CaseRanges", laid_unicode_CaseRanges), ("unicode/utf8.first", laid_unicode_utf8_first)], narrowed := true }
def FnBech32UptoSaid : Prop := fnBech32UptoRow.holds Tryd.pinned (OpenSpec.upto fnBech32Spec)

end Rows
end Go.Proofs.YthkijnfpllbdnaaDoor
