/-
  No cell of these rows narrows 'for every input' (looked for: loops, veiled, ifaces, maps, wideKeys, modest, calm, conditions, laid).
  DERIVED. THE GIVEN ROWS OF THIS SEAT. 2 by the template 'for every input the law returns true; each argument reads behind the call as it read before'; 0 by the template 'total and deterministic' (their statements: YtdejbegpdofhiaaTotals.lean).
  GIVEN WITH THE SEED: the statements are not yours to turn. If you find one false, say at which input.
  Laid BY PROGRAM, IN A SANDBOX (cutbox-rows.mjs): the forced cells as the released guide's own fill.sh prints them over the translation d9fbac3323db4027… (all of the seat's roots in one cut). By AI agents, Wed Nov 11 2026. No macro, syntax, notation, axiom, sorry.
-/
import Derived.Test.YtdejbegpdofhiaaChecked
import GoSem.Claim
import GoSem.ClaimJoined
import GoSem.ClaimMapViews
import Derived.JoinedTies
import Derived.KernelRfl
namespace Go.Proofs.Ytdejbegpdofhiaa
/- THE CELL 'sum', in the pinned program and in every row, IS THE sha256 OF THE DUMP (.gsa) THAT YtdejbegpdofhiaaProg.lean LOADS. Nothing in Lean hashes anything: it is a label: what it is worth is what the hold of that sum in a sandbox is worth. -/
noncomputable def Try.pinned : Pinned := { name := "ytdejbegpdofhiaa", sum := "d9fbac3323db402710a7811adf6458420172827d76533bae762db4c31a1c87a5", checked := Try.checked }
namespace Rows
def none {H : Type} : Left H := { results := [], args := [] }

/-- 'laws.FnTimes': WHATEVER THE INPUT: true; the input reads as it did. -/
def fnTimesSpec : ChangeSpec := { name := "fnTimes", fn := fun _ => fun
  | [d1, d2] => { results := [.lit (.bool true)], args := [d1, d2] }
  | _ => none }
def fnTimesRow : OpenClaim := { program := "ytdejbegpdofhiaa", sum := "d9fbac3323db402710a7811adf6458420172827d76533bae762db4c31a1c87a5", func := "loop.example/pub-g03073/laws.FnTimes", spec := "fnTimes", apart := false }
def FnTimesSaid : Prop := fnTimesRow.holds Try.pinned (OpenSpec.ofChange fnTimesSpec)

/-- ITS FALSE NEIGHBOUR: 'it returns false'. Refute it at one input. -/
def fnTimesWrong : ChangeSpec := { name := "fnTimes", fn := fun _ => fun
  | [d1, d2] => { results := [.lit (.bool false)], args := [d1, d2] }
  | _ => none }
def FnTimesWrongFalsely : Prop := fnTimesRow.holds Try.pinned (OpenSpec.ofChange fnTimesWrong)

/-- 'laws.FnAmount': WHATEVER THE INPUT: true; the input reads as it did. -/
def fnAmountSpec : ChangeSpec := { name := "fnAmount", fn := fun _ => fun
  | [d] => { results := [.lit (.bool true)], args := [d] }
  | _ => none }
def fnAmountRow : OpenClaim := { program := "ytdejbegpdofhiaa", sum := "d9fbac3323db402710a7811adf6458420172827d76533bae762db4c31a1c87a5", func := "loop.example/pub-g03073/laws.FnAmount", spec := "fnAmount", inPlace := ["math.Float64bits", "math.Float64frombits"], apart := false }
def FnAmountSaid : Prop := fnAmountRow.holds Try.pinned (OpenSpec.ofChange fnAmountSpec)

/-- ITS FALSE NEIGHBOUR: 'it returns false'. Refute it at one input. -/
def fnAmountWrong : ChangeSpec := { name := "fnAmount", fn := fun _ => fun
  | [d] => { results := [.lit (.bool false)], args := [d] }
  | _ => none }
def FnAmountWrongFalsely : Prop := fnAmountRow.holds Try.pinned (OpenSpec.ofChange fnAmountWrong)

/- THE SECOND FORM. 'bulk': how many values and letters a reading holds, each counted each time it is reached (what is shared counts as often as it is met; a slice's spare places count too). A statement '..UptoSaid' is the law's where the arguments, and the package variables that the reading takes, are together of bulk at most 1048576: NARROWER than '..Said'. Prove '..Said' where nothing that the law and all that it calls make is longer than what came in: it says more and counts as full. Else prove '..UptoSaid'. A law counts once. -/
mutual
def uptoBulk {H : Type} : DataW H → Nat
  | .lit (.string bytes) => bytes.length + 1
  | .lit _ => 1
  | .nil => 1
  | .ptr d => uptoBulk d + 1
  | .slice elems spare => uptoBulkAll elems + uptoBulkAll spare + 1
  | .agg parts => uptoBulkAll parts + 1
  | .iface _ d => uptoBulk d + 1
  | .map entries => uptoBulkEntries entries + 1
  | .held _ => 1
def uptoBulkAll {H : Type} : List (DataW H) → Nat
  | [] => 0
  | d :: r => uptoBulk d + uptoBulkAll r
def uptoBulkEntries {H : Type} : List (Lit × DataW H) → Nat
  | [] => 0
  | x :: r => uptoBulkEntry x + uptoBulkEntries r
def uptoBulkEntry {H : Type} : Lit × DataW H → Nat
  | (.string bytes, d) => bytes.length + uptoBulk d + 1
  | (_, d) => uptoBulk d + 1
 end
def uptoSmall : (H : Type) → List (DataW H) → Bool := fun _ ds => decide (uptoBulkAll ds ≤ 1048576)
def OpenSpec.upto (s : _root_.Go.ChangeSpec) : _root_.Go.OpenSpec := { _root_.Go.OpenSpec.ofChange s with cond := some uptoSmall }

/-- 'laws.FnTimes', WHERE WHAT IT READS IS OF BULK AT MOST 1048576: true; the input reads as it did. -/
def fnTimesUptoRow : OpenClaim := { program := "ytdejbegpdofhiaa", sum := "d9fbac3323db402710a7811adf6458420172827d76533bae762db4c31a1c87a5", func := "loop.example/pub-g03073/laws.FnTimes", spec := "fnTimes", apart := false, narrowed := true }
def FnTimesUptoSaid : Prop := fnTimesUptoRow.holds Try.pinned (OpenSpec.upto fnTimesSpec)

/-- 'laws.FnAmount', WHERE WHAT IT READS IS OF BULK AT MOST 1048576: true; the input reads as it did. -/
def fnAmountUptoRow : OpenClaim := { program := "ytdejbegpdofhiaa", sum := "d9fbac3323db402710a7811adf6458420172827d76533bae762db4c31a1c87a5", func := "loop.example/pub-g03073/laws.FnAmount", spec := "fnAmount", inPlace := ["math.Float64bits", "math.Float64frombits"], apart := false, narrowed := true }
def FnAmountUptoSaid : Prop := fnAmountUptoRow.holds Try.pinned (OpenSpec.upto fnAmountSpec)

end Rows
end Go.Proofs.Ytdejbegpdofhiaa
