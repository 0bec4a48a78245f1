/-
  No cell of these rows narrows 'for every input' (looked for: loops, veiled, ifaces, maps, wideKeys, modest, calm, conditions, laid).
  DERIVED. THE GIVEN ROWS OF THIS SEAT. 3 by the template 'for every input the law returns true; each argument reads behind the call as it read before'; 0 by the template 'total and deterministic' (their statements: YtkmcoaidlnaliaaTotals.lean).
  GIVEN WITH THE SEED: the statements are not yours to turn. If you find one false, say at which input.
  Laid BY PROGRAM, IN A SANDBOX (cutbox-rows.mjs): the forced cells as the released guide's own fill.sh prints them over the translation cc2a6dda425623eb… (all of the seat's roots in one cut). By AI agents, Wed Nov 11 2026. No macro, syntax, notation, axiom, sorry.
-/
import Derived.Test.YtkmcoaidlnaliaaChecked
import GoSem.Claim
import GoSem.ClaimJoined
import GoSem.ClaimMapViews
import Derived.JoinedTies
import Derived.KernelRfl
namespace Go.Proofs.Ytkmcoaidlnaliaa
/- THE CELL 'sum', in the pinned program and in every row, IS THE sha256 OF THE DUMP (.gsa) THAT YtkmcoaidlnaliaaProg.lean LOADS. Nothing in Lean hashes anything: it is a label: what it is worth is what the hold of that sum in a sandbox is worth. -/
noncomputable def Try.pinned : Pinned := { name := "ytkmcoaidlnaliaa", sum := "cc2a6dda425623eb6a152f5bb7c491c837f9565a90beee51bc49678c64ded11e", checked := Try.checked }
namespace Rows
def none {H : Type} : Left H := { results := [], args := [] }

/-- 'laws.FnPurse': WHATEVER THE INPUT: true; the input reads as it did. -/
def fnPurseSpec : ChangeSpec := { name := "fnPurse", fn := fun _ => fun
  | [d1, d2] => { results := [.lit (.bool true)], args := [d1, d2] }
  | _ => none }
def fnPurseRow : OpenClaim := { program := "ytkmcoaidlnaliaa", sum := "cc2a6dda425623eb6a152f5bb7c491c837f9565a90beee51bc49678c64ded11e", func := "loop.example/pub-g03073/laws.FnPurse", spec := "fnPurse", unfollowed := true, recurses := true, apart := false }
def FnPurseSaid : Prop := fnPurseRow.holds Try.pinned (OpenSpec.ofChange fnPurseSpec)

/-- ITS FALSE NEIGHBOUR: 'it returns false'. Refute it at one input. -/
def fnPurseWrong : ChangeSpec := { name := "fnPurse", fn := fun _ => fun
  | [d1, d2] => { results := [.lit (.bool false)], args := [d1, d2] }
  | _ => none }
def FnPurseWrongFalsely : Prop := fnPurseRow.holds Try.pinned (OpenSpec.ofChange fnPurseWrong)

/-- 'laws.FnReaches': WHATEVER THE INPUT: true; the input reads as it did. -/
def fnReachesSpec : ChangeSpec := { name := "fnReaches", fn := fun _ => fun
  | [d1, d2, d3] => { results := [.lit (.bool true)], args := [d1, d2, d3] }
  | _ => none }
def fnReachesRow : OpenClaim := { program := "ytkmcoaidlnaliaa", sum := "cc2a6dda425623eb6a152f5bb7c491c837f9565a90beee51bc49678c64ded11e", func := "loop.example/pub-g03073/laws.FnReaches", spec := "fnReaches", unfollowed := true, recurses := true, apart := false }
def FnReachesSaid : Prop := fnReachesRow.holds Try.pinned (OpenSpec.ofChange fnReachesSpec)

/-- ITS FALSE NEIGHBOUR: 'it returns false'. Refute it at one input. -/
def fnReachesWrong : ChangeSpec := { name := "fnReaches", fn := fun _ => fun
  | [d1, d2, d3] => { results := [.lit (.bool false)], args := [d1, d2, d3] }
  | _ => none }
def FnReachesWrongFalsely : Prop := fnReachesRow.holds Try.pinned (OpenSpec.ofChange fnReachesWrong)

/-- 'laws.FnSelect': WHATEVER THE INPUT: true; the input reads as it did. -/
def fnSelectSpec : ChangeSpec := { name := "fnSelect", fn := fun _ => fun
  | [d1, d2, d3] => { results := [.lit (.bool true)], args := [d1, d2, d3] }
  | _ => none }
def fnSelectRow : OpenClaim := { program := "ytkmcoaidlnaliaa", sum := "cc2a6dda425623eb6a152f5bb7c491c837f9565a90beee51bc49678c64ded11e", func := "loop.example/pub-g03073/laws.FnSelect", spec := "fnSelect", unfollowed := true, recurses := true, apart := false }
def FnSelectSaid : Prop := fnSelectRow.holds Try.pinned (OpenSpec.ofChange fnSelectSpec)

/-- ITS FALSE NEIGHBOUR: 'it returns false'. Refute it at one input. -/
def fnSelectWrong : ChangeSpec := { name := "fnSelect", fn := fun _ => fun
  | [d1, d2, d3] => { results := [.lit (.bool false)], args := [d1, d2, d3] }
  | _ => none }
def FnSelectWrongFalsely : Prop := fnSelectRow.holds Try.pinned (OpenSpec.ofChange fnSelectWrong)

/- THE SECOND FORM. 'bulk': how many values and letters a reading holds, each counted each time it is reached (what is shared counts as often as it is met; a slice's spare places count too). A statement '..UptoSaid' is the law's where the arguments, and the package variables that the reading takes, are together of bulk at most 1048576: NARROWER than '..Said'. Prove '..Said' where nothing that the law and all that it calls make is longer than what came in: it says more and counts as full. Else prove '..UptoSaid'. A law counts once. -/
mutual
def uptoBulk {H : Type} : DataW H → Nat
  | .lit (.string bytes) => bytes.length + 1
  | .lit _ => 1
  | .nil => 1
  | .ptr d => uptoBulk d + 1
  | .slice elems spare => uptoBulkAll elems + uptoBulkAll spare + 1
  | .agg parts => uptoBulkAll parts + 1
  | .iface _ d => uptoBulk d + 1
  | .map entries => uptoBulkEntries entries + 1
  | .held _ => 1
def uptoBulkAll {H : Type} : List (DataW H) → Nat
  | [] => 0
  | d :: r => uptoBulk d + uptoBulkAll r
def uptoBulkEntries {H : Type} : List (Lit × DataW H) → Nat
  | [] => 0
  | x :: r => uptoBulkEntry x + uptoBulkEntries r
def uptoBulkEntry {H : Type} : Lit × DataW H → Nat
  | (.string bytes, d) => bytes.length + uptoBulk d + 1
  | (_, d) => uptoBulk d + 1
 end
def uptoSmall : (H : Type) → List (DataW H) → Bool := fun _ ds => decide (uptoBulkAll ds ≤ 1048576)
def OpenSpec.upto (s : _root_.Go.ChangeSpec) : _root_.Go.OpenSpec := { _root_.Go.OpenSpec.ofChange s with cond := some uptoSmall }

/-- 'laws.FnPurse', WHERE WHAT IT READS IS OF BULK AT MOST 1048576: true; the input reads as it did. -/
def fnPurseUptoRow : OpenClaim := { program := "ytkmcoaidlnaliaa", sum := "cc2a6dda425623eb6a152f5bb7c491c837f9565a90beee51bc49678c64ded11e", func := "loop.example/pub-g03073/laws.FnPurse", spec := "fnPurse", unfollowed := true, recurses := true, apart := false, narrowed := true }
def FnPurseUptoSaid : Prop := fnPurseUptoRow.holds Try.pinned (OpenSpec.upto fnPurseSpec)

/-- 'laws.FnReaches', WHERE WHAT IT READS IS OF BULK AT MOST 1048576: true; the input reads as it did. -/
def fnReachesUptoRow : OpenClaim := { program := "ytkmcoaidlnaliaa", sum := "cc2a6dda425623eb6a152f5bb7c491c837f9565a90beee51bc49678c64ded11e", func := "loop.example/pub-g03073/laws.FnReaches", spec := "fnReaches", unfollowed := true, recurses := true, apart := false, narrowed := true }
def FnReachesUptoSaid : Prop := fnReachesUptoRow.holds Try.pinned (OpenSpec.upto fnReachesSpec)

/-- 'laws.FnSelect', WHERE WHAT IT READS IS OF BULK AT MOST 1048576: true; the input reads as it did. -/
def fnSelectUptoRow : OpenClaim := { program := "ytkmcoaidlnaliaa", sum := "cc2a6dda425623eb6a152f5bb7c491c837f9565a90beee51bc49678c64ded11e", func := "loop.example/pub-g03073/laws.FnSelect", spec := "fnSelect", unfollowed := true, recurses := true, apart := false, narrowed := true }
def FnSelectUptoSaid : Prop := fnSelectUptoRow.holds Try.pinned (OpenSpec.upto fnSelectSpec)

end Rows
end Go.Proofs.Ytkmcoaidlnaliaa
