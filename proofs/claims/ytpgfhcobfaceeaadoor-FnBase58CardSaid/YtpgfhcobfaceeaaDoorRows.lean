/-
  NARROWER THAN 'FOR EVERY INPUT', by the rows' own cells (each row's printed sentence says how): FnUnBase58: laid · FnBase58: laid · FnUnCheck: ifaces, laid · FnCheck: ifaces, laid.
  DERIVED. THE GIVEN ROWS OF THIS SEAT. 4 by the template 'for every input the law returns true; each argument reads behind the call as it read before'; 0 by the template 'total and deterministic' (their statements: YtpgfhcobfaceeaaDoorTotals.lean).
  GIVEN WITH THE SEED: the statements are not yours to turn. If you find one false, say at which input.
  Laid BY PROGRAM, IN A SANDBOX (cutbox-rows.mjs): the forced cells as the released guide's own fill.sh prints them over the translation 387ee8e9e38a2870… (all of the seat's roots in one cut). By AI agents, Wed Nov 11 2026. No macro, syntax, notation, axiom, sorry.
-/
import Derived.Test.YtpgfhcobfaceeaaDoorChecked
import GoSem.Claim
import GoSem.ClaimJoined
import GoSem.ClaimMapViews
import Derived.JoinedTies
import Derived.KernelRfl
namespace Go.Proofs.YtpgfhcobfaceeaaDoor
/- THE CELL 'sum', in the pinned program and in every row, IS THE sha256 OF THE DUMP (.gsa) THAT YtpgfhcobfaceeaaDoorProg.lean LOADS. Nothing in Lean hashes anything: it is a label: what it is worth is what the hold of that sum in a sandbox is worth. -/
noncomputable def Tryd.pinned : Pinned := { name := "ytpgfhcobfaceeaadoor", sum := "387ee8e9e38a2870ec360dc238528a5432288110c947715f44e7f4494e7cce3f", checked := Tryd.checked }
namespace Rows
def none {H : Type} : Left H := { results := [], args := [] }

/- WHAT THE LISTED PACKAGE-LEVEL VARIABLES READ AS WHEN THE CALL BEGINS. Each datum BY PROGRAM (the guide's laid-datum.mjs) off the statement by which the dump's own 'gosem.cut.vars' lays the variable. In a bare row this is a premise. The card (YtpgfhcobfaceeaaDoorCards.lean) ties it to the program's text. -/
def laid_loop_example_pub_g03073_pub_base58_b58 {H : Type} : DataW H := .agg [.lit (.int .u8 255), .lit (.int .u8 255), .lit (.int .u8 255), .lit (.int .u8 255), .lit (.int .u8 255), .lit (.int .u8 255), .lit (.int .u8 255), .lit (.int .u8 255), .lit (.int .u8 255), .lit (.int .u8 255), .lit (.int .u8 255), .lit (.int .u8 255), .lit (.int .u8 255), .lit (.int .u8 255), .lit (.int .u8 255), .lit (.int .u8 255), .lit (.int .u8 255), .lit (.int .u8 255), .lit (.int .u8 255), .lit (.int .u8 255), .lit (.int .u8 255), .lit (.int .u8 255), .lit (.int .u8 255), .lit (.int .u8 255), .lit (.int .u8 255), .lit (.int .u8 255), .lit (.int .u8 255), .lit (.int .u8 255), .lit (.int .u8 255), .lit (.int .u8 255), .lit (.int .u8 255), .lit (.int .u8 255), .lit (.int .u8 255), .lit (.int .u8 255), .lit (.int .u8 255), .lit (.int .u8 255), .lit (.int .u8 255), .lit (.int .u8 255), .lit (.int .u8 255), .lit (.int .u8 255), .lit (.int .u8 255), .lit (.int .u8 255), .lit (.int .u8 255), .lit (.int .u8 255), .lit (.int .u8 255), .lit (.int .u8 255), .lit (.int .u8 255), .lit (.int .u8 255), .lit (.int .u8 255), .lit (.int .u8 0), .lit (.int .u8 1), .lit (.int .u8 2), .lit (.int .u8 3), .lit (.int .u8 4), .lit (.int .u8 5), .lit (.int .u8 6), .lit (.int .u8 7), .lit (.int .u8 8), .lit (.int .u8 255), .lit (.int .u8 255), .lit (.int .u8 255), .lit (.int .u8 255), .lit (.int .u8 255), .lit (.int .u8 255), .lit (.int .u8 255), .lit (.int .u8 9), .lit (.int .u8 10), .lit (.int .u8 11), .lit (.int .u8 12), .lit (.int .u8 13), .lit (.int .u8 14), .lit (.int .u8 15), .lit (.int .u8 16), .lit (.int .u8 255), .lit (.int .u8 17), .lit (.int .u8 18), .lit (.int .u8 19), .lit (.int .u8 20), .lit (.int .u8 21), .lit (.int .u8 255), .lit (.int .u8 22), .lit (.int .u8 23), .lit (.int .u8 24), .lit (.int .u8 25), .lit (.int .u8 26), .lit (.int .u8 27), .lit (.int .u8 28), .lit (.int .u8 29), .lit (.int .u8 30), .lit (.int .u8 31), .lit (.int .u8 32), .lit (.int .u8 255), .lit (.int .u8 255), .lit (.int .u8 255), .lit (.int .u8 255), .lit (.int .u8 255), .lit (.int .u8 255), .lit (.int .u8 33), .lit (.int .u8 34), .lit (.int .u8 35), .lit (.int .u8 36), .lit (.int .u8 37), .lit (.int .u8 38), .lit (.int .u8 39), .lit (.int .u8 40), .lit (.int .u8 41), .lit (.int .u8 42), .lit (.int .u8 43), .lit (.int .u8 255), .lit (.int .u8 44), .lit (.int .u8 45), .lit (.int .u8 46), .lit (.int .u8 47), .lit (.int .u8 48), .lit (.int .u8 49), .lit (.int .u8 50), .lit (.int .u8 51), .lit (.int .u8 52), .lit (.int .u8 53), .lit (.int .u8 54), .lit (.int .u8 55), .lit (.int .u8 56), .lit (.int .u8 57), .lit (.int .u8 255), .lit (.int .u8 255), .lit (.int .u8 255), .lit (.int .u8 255), .lit (.int .u8 255), .lit (.int .u8 255), .lit (.int .u8 255), .lit (.int .u8 255), .lit (.int .u8 255), .lit (.int .u8 255), .lit (.int .u8 255), .lit (.int .u8 255), .lit (.int .u8 255), .lit (.int .u8 255), .lit (.int .u8 255), .lit (.int .u8 255), .lit (.int .u8 255), .lit (.int .u8 255), .lit (.int .u8 255), .lit (.int .u8 255), .lit (.int .u8 255), .lit (.int .u8 255), .lit (.int .u8 255), .lit (.int .u8 255), .lit (.int .u8 255), .lit (.int .u8 255), .lit (.int .u8 255), .lit (.int .u8 255), .lit (.int .u8 255), .lit (.int .u8 255), .lit (.int .u8 255), .lit (.int .u8 255), .lit (.int .u8 255), .lit (.int .u8 255), .lit (.int .u8 255), .lit (.int .u8 255), .lit (.int .u8 255), .lit (.int .u8 255), .lit (.int .u8 255), .lit (.int .u8 255), .lit (.int .u8 255), .lit (.int .u8 255), .lit (.int .u8 255), .lit (.int .u8 255), .lit (.int .u8 255), .lit (.int .u8 255), .lit (.int .u8 255), .lit (.int .u8 255), .lit (.int .u8 255), .lit (.int .u8 255), .lit (.int .u8 255), .lit (.int .u8 255), .lit (.int .u8 255), .lit (.int .u8 255), .lit (.int .u8 255), .lit (.int .u8 255), .lit (.int .u8 255), .lit (.int .u8 255), .lit (.int .u8 255), .lit (.int .u8 255), .lit (.int .u8 255), .lit (.int .u8 255), .lit (.int .u8 255), .lit (.int .u8 255), .lit (.int .u8 255), .lit (.int .u8 255), .lit (.int .u8 255), .lit (.int .u8 255), .lit (.int .u8 255), .lit (.int .u8 255), .lit (.int .u8 255), .lit (.int .u8 255), .lit (.int .u8 255), .lit (.int .u8 255), .lit (.int .u8 255), .lit (.int .u8 255), .lit (.int .u8 255), .lit (.int .u8 255), .lit (.int .u8 255), .lit (.int .u8 255), .lit (.int .u8 255), .lit (.int .u8 255), .lit (.int .u8 255), .lit (.int .u8 255), .lit (.int .u8 255), .lit (.int .u8 255), .lit (.int .u8 255), .lit (.int .u8 255), .lit (.int .u8 255), .lit (.int .u8 255), .lit (.int .u8 255), .lit (.int .u8 255), .lit (.int .u8 255), .lit (.int .u8 255), .lit (.int .u8 255), .lit (.int .u8 255), .lit (.int .u8 255), .lit (.int .u8 255), .lit (.int .u8 255), .lit (.int .u8 255), .lit (.int .u8 255), .lit (.int .u8 255), .lit (.int .u8 255), .lit (.int .u8 255), .lit (.int .u8 255), .lit (.int .u8 255), .lit (.int .u8 255), .lit (.int .u8 255), .lit (.int .u8 255), .lit (.int .u8 255), .lit (.int .u8 255), .lit (.int .u8 255), .lit (.int .u8 255), .lit (.int .u8 255), .lit (.int .u8 255), .lit (.int .u8 255), .lit (.int .u8 255), .lit (.int .u8 255), .lit (.int .u8 255), .lit (.int .u8 255), .lit (.int .u8 255), .lit (.int .u8 255), .lit (.int .u8 255), .lit (.int .u8 255), .lit (.int .u8 255), .lit (.int .u8 255), .lit (.int .u8 255), .lit (.int .u8 255), .lit (.int .u8 255), .lit (.int .u8 255), .lit (.int .u8 255), .lit (.int .u8 255), .lit (.int .u8 255)]
def laid_loop_example_pub_g03073_pub_base58_ErrChecksum {H : Type} : DataW H := .iface "*errors.errorString" (.ptr (.agg [.lit (.string [99, 104, 101, 99, 107, 115, 117, 109, 32, 101, 114, 114, 111, 114])]))
def laid_loop_example_pub_g03073_pub_base58_ErrInvalidFormat {H : Type} : DataW H := .iface "*errors.errorString" (.ptr (.agg [.lit (.string [105, 110, 118, 97, 108, 105, 100, 32, 102, 111, 114, 109, 97, 116, 58, 32, 118, 101, 114, 115, 105, 111, 110, 32, 97, 110, 100, 47, 111, 114, 32, 99, 104, 101, 99, 107, 115, 117, 109, 32, 98, 121, 116, 101, 115, 32, 109, 105, 115, 115, 105, 110, 103])]))

/-- 'laws.FnUnBase58': WHATEVER THE INPUT: true; the input reads as it did. -/
def fnUnBase58Spec : ChangeSpec := { name := "fnUnBase58", vars := ["loop.example/pub-g03073/pub/base58.b58"], fn := fun _ => fun
  | [d, g1] => { results := [.lit (.bool true)], args := [d], vars := [g1] }
  | _ => none }
def fnUnBase58Row : OpenClaim := { program := "ytpgfhcobfaceeaadoor", sum := "387ee8e9e38a2870ec360dc238528a5432288110c947715f44e7f4494e7cce3f", func := "loop.example/pub-g03073/laws.FnUnBase58", spec := "fnUnBase58", named := ["loop.example/pub-g03073/pub/base58.b58"], apart := false, laid := [("loop.example/pub-g03073/pub/base58.b58", laid_loop_example_pub_g03073_pub_base58_b58)] }
def FnUnBase58Said : Prop := fnUnBase58Row.holds Tryd.pinned (OpenSpec.ofChange fnUnBase58Spec)

/-- ITS FALSE NEIGHBOUR: 'it returns false'. Refute it at one input. -/
def fnUnBase58Wrong : ChangeSpec := { name := "fnUnBase58", vars := ["loop.example/pub-g03073/pub/base58.b58"], fn := fun _ => fun
  | [d, g1] => { results := [.lit (.bool false)], args := [d], vars := [g1] }
  | _ => none }
def FnUnBase58WrongFalsely : Prop := fnUnBase58Row.holds Tryd.pinned (OpenSpec.ofChange fnUnBase58Wrong)

/-- 'laws.FnBase58': WHATEVER THE INPUT: true; the input reads as it did. -/
def fnBase58Spec : ChangeSpec := { name := "fnBase58", vars := ["loop.example/pub-g03073/pub/base58.b58"], fn := fun _ => fun
  | [d, g1] => { results := [.lit (.bool true)], args := [d], vars := [g1] }
  | _ => none }
def fnBase58Row : OpenClaim := { program := "ytpgfhcobfaceeaadoor", sum := "387ee8e9e38a2870ec360dc238528a5432288110c947715f44e7f4494e7cce3f", func := "loop.example/pub-g03073/laws.FnBase58", spec := "fnBase58", named := ["loop.example/pub-g03073/pub/base58.b58"], apart := false, laid := [("loop.example/pub-g03073/pub/base58.b58", laid_loop_example_pub_g03073_pub_base58_b58)] }
def FnBase58Said : Prop := fnBase58Row.holds Tryd.pinned (OpenSpec.ofChange fnBase58Spec)

/-- ITS FALSE NEIGHBOUR: 'it returns false'. Refute it at one input. -/
def fnBase58Wrong : ChangeSpec := { name := "fnBase58", vars := ["loop.example/pub-g03073/pub/base58.b58"], fn := fun _ => fun
  | [d, g1] => { results := [.lit (.bool false)], args := [d], vars := [g1] }
  | _ => none }
def FnBase58WrongFalsely : Prop := fnBase58Row.holds Tryd.pinned (OpenSpec.ofChange fnBase58Wrong)

/-- 'laws.FnUnCheck': WHATEVER THE INPUT: true; the input reads as it did. -/
def fnUnCheckSpec : ChangeSpec := { name := "fnUnCheck", vars := ["loop.example/pub-g03073/pub/base58.ErrChecksum", "loop.example/pub-g03073/pub/base58.ErrInvalidFormat", "loop.example/pub-g03073/pub/base58.b58"], fn := fun _ => fun
  | [d, g1, g2, g3] => { results := [.lit (.bool true)], args := [d], vars := [g1, g2, g3] }
  | _ => none }
def fnUnCheckRow : OpenClaim := { program := "ytpgfhcobfaceeaadoor", sum := "387ee8e9e38a2870ec360dc238528a5432288110c947715f44e7f4494e7cce3f", func := "loop.example/pub-g03073/laws.FnUnCheck", spec := "fnUnCheck", unfollowed := true, recurses := true, named := ["loop.example/pub-g03073/pub/base58.ErrChecksum", "loop.example/pub-g03073/pub/base58.ErrInvalidFormat", "loop.example/pub-g03073/pub/base58.b58"], ifaces := true, apart := false, laid := [("loop.example/pub-g03073/pub/base58.b58", laid_loop_example_pub_g03073_pub_base58_b58), ("loop.example/pub-g03073/pub/base58.ErrChecksum", laid_loop_example_pub_g03073_pub_base58_ErrChecksum), ("loop.example/pub-g03073/pub/base58.ErrInvalidFormat", laid_loop_example_pub_g03073_pub_base58_ErrInvalidFormat)] }
def FnUnCheckSaid : Prop := fnUnCheckRow.holds Tryd.pinned (OpenSpec.ofChange fnUnCheckSpec)

/-- ITS FALSE NEIGHBOUR: 'it returns false'. Refute it at one input. -/
def fnUnCheckWrong : ChangeSpec := { name := "fnUnCheck", vars := ["loop.example/pub-g03073/pub/base58.ErrChecksum", "loop.example/pub-g03073/pub/base58.ErrInvalidFormat", "loop.example/pub-g03073/pub/base58.b58"], fn := fun _ => fun
  | [d, g1, g2, g3] => { results := [.lit (.bool false)], args := [d], vars := [g1, g2, g3] }
  | _ => none }
def FnUnCheckWrongFalsely : Prop := fnUnCheckRow.holds Tryd.pinned (OpenSpec.ofChange fnUnCheckWrong)

/-- 'laws.FnCheck': WHATEVER THE INPUT: true; the input reads as it did. -/
def fnCheckSpec : ChangeSpec := { name := "fnCheck", vars := ["loop.example/pub-g03073/pub/base58.ErrChecksum", "loop.example/pub-g03073/pub/base58.ErrInvalidFormat", "loop.example/pub-g03073/pub/base58.b58"], fn := fun _ => fun
  | [d1, d2, g1, g2, g3] => { results := [.lit (.bool true)], args := [d1, d2], vars := [g1, g2, g3] }
  | _ => none }
def fnCheckRow : OpenClaim := { program := "ytpgfhcobfaceeaadoor", sum := "387ee8e9e38a2870ec360dc238528a5432288110c947715f44e7f4494e7cce3f", func := "loop.example/pub-g03073/laws.FnCheck", spec := "fnCheck", unfollowed := true, recurses := true, named := ["loop.example/pub-g03073/pub/base58.ErrChecksum", "loop.example/pub-g03073/pub/base58.ErrInvalidFormat", "loop.example/pub-g03073/pub/base58.b58"], ifaces := true, apart := false, laid := [("loop.example/pub-g03073/pub/base58.b58", laid_loop_example_pub_g03073_pub_base58_b58), ("loop.example/pub-g03073/pub/base58.ErrChecksum", laid_loop_example_pub_g03073_pub_base58_ErrChecksum), ("loop.example/pub-g03073/pub/base58.ErrInvalidFormat", laid_loop_example_pub_g03073_pub_base58_ErrInvalidFormat)] }
def FnCheckSaid : Prop := fnCheckRow.holds Tryd.pinned (OpenSpec.ofChange fnCheckSpec)

/-- ITS FALSE NEIGHBOUR: 'it returns false'. Refute it at one input. -/
def fnCheckWrong : ChangeSpec := { name := "fnCheck", vars := ["loop.example/pub-g03073/pub/base58.ErrChecksum", "loop.example/pub-g03073/pub/base58.ErrInvalidFormat", "loop.example/pub-g03073/pub/base58.b58"], fn := fun _ => fun
  | [d1, d2, g1, g2, g3] => { results := [.lit (.bool false)], args := [d1, d2], vars := [g1, g2, g3] }
  | _ => none }
def FnCheckWrongFalsely : Prop := fnCheckRow.holds Tryd.pinned (OpenSpec.ofChange fnCheckWrong)

/- THE SECOND FORM. 'bulk': how many values and letters a reading holds, each counted each time it is reached (what is shared counts as often as it is met; a slice's spare places count too). A statement '..UptoSaid' is the law's where the arguments, and the package variables that the reading takes, are together of bulk at most 1048576: NARROWER than '..Said'. Prove '..Said' where nothing that the law and all that it calls make is longer than what came in: it says more and counts as full. Else prove '..UptoSaid'. A law counts once. -/
mutual
def uptoBulk {H : Type} : DataW H → Nat
  | .lit (.string bytes) => bytes.length + 1
  | .lit _ => 1
  | .nil => 1
  | .ptr d => uptoBulk d + 1
  | .slice elems spare => uptoBulkAll elems + uptoBulkAll spare + 1
  | .agg parts => uptoBulkAll parts + 1
  | .iface _ d => uptoBulk d + 1
  | .map entries => uptoBulkEntries entries + 1
  | .held _ => 1
def uptoBulkAll {H : Type} : List (DataW H) → Nat
  | [] => 0
  | d :: r => uptoBulk d + uptoBulkAll r
def uptoBulkEntries {H : Type} : List (Lit × DataW H) → Nat
  | [] => 0
  | x :: r => uptoBulkEntry x + uptoBulkEntries r
def uptoBulkEntry {H : Type} : Lit × DataW H → Nat
  | (.string bytes, d) => bytes.length + uptoBulk d + 1
  | (_, d) => uptoBulk d + 1
 end
def uptoSmall : (H : Type) → List (DataW H) → Bool := fun _ ds => decide (uptoBulkAll ds ≤ 1048576)
def OpenSpec.upto (s : _root_.Go.ChangeSpec) : _root_.Go.OpenSpec := { _root_.Go.OpenSpec.ofChange s with cond := some uptoSmall }

/-- 'laws.FnUnBase58', WHERE WHAT IT READS IS OF BULK AT MOST 1048576: true; the input reads as it did. -/
def fnUnBase58UptoRow : OpenClaim := { program := "ytpgfhcobfaceeaadoor", sum := "387ee8e9e38a2870ec360dc238528a5432288110c947715f44e7f4494e7cce3f", func := "loop.example/pub-g03073/laws.FnUnBase58", spec := "fnUnBase58", named := ["loop.example/pub-g03073/pub/base58.b58"], apart := false, laid := [("loop.example/pub-g03073/pub/base58.b58", laid_loop_example_pub_g03073_pub_base58_b58)], narrowed := true }
def FnUnBase58UptoSaid : Prop := fnUnBase58UptoRow.holds Tryd.pinned (OpenSpec.upto fnUnBase58Spec)

/-- 'laws.FnBase58', WHERE WHAT IT READS IS OF BULK AT MOST 1048576: true; the input reads as it did. -/
def fnBase58UptoRow : OpenClaim := { program := "ytpgfhcobfaceeaadoor", sum := "387ee8e9e38a2870ec360dc238528a5432288110c947715f44e7f4494e7cce3f", func := "loop.example/pub-g03073/laws.FnBase58", spec := "fnBase58", named := ["loop.example/pub-g03073/pub/base58.b58"], apart := false, laid := [("loop.example/pub-g03073/pub/base58.b58", laid_loop_example_pub_g03073_pub_base58_b58)], narrowed := true }
def FnBase58UptoSaid : Prop := fnBase58UptoRow.holds Tryd.pinned (OpenSpec.upto fnBase58Spec)

/-- 'laws.FnUnCheck', WHERE WHAT IT READS IS OF BULK AT MOST 1048576: true; the input reads as it did. -/
def fnUnCheckUptoRow : OpenClaim := { program := "ytpgfhcobfaceeaadoor", sum := "387ee8e9e38a2870ec360dc238528a5432288110c947715f44e7f4494e7cce3f", func := "loop.example/pub-g03073/laws.FnUnCheck", spec := "fnUnCheck", unfollowed := true, recurses := true, named := ["loop.example/pub-g03073/pub/base58.ErrChecksum", "loop.example/pub-g03073/pub/base58.ErrInvalidFormat", "loop.example/pub-g03073/pub/base58.b58"], ifaces := true, apart := false, laid := [("loop.example/pub-g03073/pub/base58.b58", laid_loop_example_pub_g03073_pub_base58_b58), ("loop.example/pub-g03073/pub/base58.ErrChecksum", laid_loop_example_pub_g03073_pub_base58_ErrChecksum), ("loop.example/pub-g03073/pub/base58.ErrInvalidFormat", laid_loop_example_pub_g03073_pub_base58_ErrInvalidFormat)], narrowed := true }
def FnUnCheckUptoSaid : Prop := fnUnCheckUptoRow.holds Tryd.pinned (OpenSpec.upto fnUnCheckSpec)

/-- 'laws.FnCheck', WHERE WHAT IT READS IS OF BULK AT MOST 1048576: true; the input reads as it did. -/
def fnCheckUptoRow : OpenClaim := { program := "ytpgfhcobfaceeaadoor", sum := "387ee8e9e38a2870ec360dc238528a5432288110c947715f44e7f4494e7cce3f", func := "loop.example/pub-g03073/laws.FnCheck", spec := "fnCheck", unfollowed := true, recurses := true, named := ["loop.example/pub-g03073/pub/base58.ErrChecksum", "loop.example/pub-g03073/pub/base58.ErrInvalidFormat", "loop.example/pub-g03073/pub/base58.b58"], ifaces := true, apart := false, laid := [("loop.example/pub-g03073/pub/base58.b58", laid_loop_example_pub_g03073_pub_base58_b58), ("loop.example/pub-g03073/pub/base58.ErrChecksum", laid_loop_example_pub_g03073_pub_base58_ErrChecksum), ("loop.example/pub-g03073/pub/base58.ErrInvalidFormat", laid_loop_example_pub_g03073_pub_base58_ErrInvalidFormat)], narrowed := true }
def FnCheckUptoSaid : Prop := fnCheckUptoRow.holds Tryd.pinned (OpenSpec.upto fnCheckSpec)

end Rows
end Go.Proofs.YtpgfhcobfaceeaaDoor
