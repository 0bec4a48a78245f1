/-
  No cell of these rows narrows 'for every input' (looked for: loops, veiled, ifaces, maps, wideKeys, modest, calm, conditions, laid).
  DERIVED. THE GIVEN ROWS OF THIS SEAT. 4 by the template 'for every input the law returns true; each argument reads behind the call as it read before'; 0 by the template 'total and deterministic' (their statements: YthmfbkmdhnfbnaaTotals.lean).
  GIVEN WITH THE SEED: the statements are not yours to turn. If you find one false, say at which input.
  Laid BY PROGRAM, IN A SANDBOX (cutbox-rows.mjs): the forced cells as the released guide's own fill.sh prints them over the translation 9fd30b1098fd6a42… (all of the seat's roots in one cut). By AI agents, Wed Nov 11 2026. No macro, syntax, notation, axiom, sorry.
-/
import Derived.Test.YthmfbkmdhnfbnaaChecked
import GoSem.Claim
import GoSem.ClaimJoined
import GoSem.ClaimMapViews
import Derived.JoinedTies
import Derived.KernelRfl
namespace Go.Proofs.Ythmfbkmdhnfbnaa
/- THE CELL 'sum', in the pinned program and in every row, IS THE sha256 OF THE DUMP (.gsa) THAT YthmfbkmdhnfbnaaProg.lean LOADS. Nothing in Lean hashes anything: it is a label: what it is worth is what the hold of that sum in a sandbox is worth. -/
noncomputable def Try.pinned : Pinned := { name := "ythmfbkmdhnfbnaa", sum := "9fd30b1098fd6a42f639ab9118c8202c9c1646f20c19074187499b2d22d57096", checked := Try.checked }
namespace Rows
def none {H : Type} : Left H := { results := [], args := [] }

/-- 'laws.FnMurmur': WHATEVER THE INPUT: true; the input reads as it did. -/
def fnMurmurSpec : ChangeSpec := { name := "fnMurmur", fn := fun _ => fun
  | [d1, d2] => { results := [.lit (.bool true)], args := [d1, d2] }
  | _ => none }
def fnMurmurRow : OpenClaim := { program := "ythmfbkmdhnfbnaa", sum := "9fd30b1098fd6a42f639ab9118c8202c9c1646f20c19074187499b2d22d57096", func := "loop.example/pub-g03073/laws.FnMurmur", spec := "fnMurmur", unfollowed := true, recurses := true, named := ["encoding/binary.LittleEndian"], apart := false }
def FnMurmurSaid : Prop := fnMurmurRow.holds Try.pinned (OpenSpec.ofChange fnMurmurSpec)

/-- ITS FALSE NEIGHBOUR: 'it returns false'. Refute it at one input. -/
def fnMurmurWrong : ChangeSpec := { name := "fnMurmur", fn := fun _ => fun
  | [d1, d2] => { results := [.lit (.bool false)], args := [d1, d2] }
  | _ => none }
def FnMurmurWrongFalsely : Prop := fnMurmurRow.holds Try.pinned (OpenSpec.ofChange fnMurmurWrong)

/-- 'laws.FnAdded': WHATEVER THE INPUT: true; the input reads as it did. -/
def fnAddedSpec : ChangeSpec := { name := "fnAdded", fn := fun _ => fun
  | [d1, d2, d3] => { results := [.lit (.bool true)], args := [d1, d2, d3] }
  | _ => none }
def fnAddedRow : OpenClaim := { program := "ythmfbkmdhnfbnaa", sum := "9fd30b1098fd6a42f639ab9118c8202c9c1646f20c19074187499b2d22d57096", func := "loop.example/pub-g03073/laws.FnAdded", spec := "fnAdded", unfollowed := true, recurses := true, named := ["encoding/binary.LittleEndian"], apart := false }
def FnAddedSaid : Prop := fnAddedRow.holds Try.pinned (OpenSpec.ofChange fnAddedSpec)

/-- ITS FALSE NEIGHBOUR: 'it returns false'. Refute it at one input. -/
def fnAddedWrong : ChangeSpec := { name := "fnAdded", fn := fun _ => fun
  | [d1, d2, d3] => { results := [.lit (.bool false)], args := [d1, d2, d3] }
  | _ => none }
def FnAddedWrongFalsely : Prop := fnAddedRow.holds Try.pinned (OpenSpec.ofChange fnAddedWrong)

/-- 'laws.FnPoint': WHATEVER THE INPUT: true; the input reads as it did. -/
def fnPointSpec : ChangeSpec := { name := "fnPoint", fn := fun _ => fun
  | [d1, d2, d3] => { results := [.lit (.bool true)], args := [d1, d2, d3] }
  | _ => none }
def fnPointRow : OpenClaim := { program := "ythmfbkmdhnfbnaa", sum := "9fd30b1098fd6a42f639ab9118c8202c9c1646f20c19074187499b2d22d57096", func := "loop.example/pub-g03073/laws.FnPoint", spec := "fnPoint", unfollowed := true, recurses := true, named := ["encoding/binary.LittleEndian"], apart := false }
def FnPointSaid : Prop := fnPointRow.holds Try.pinned (OpenSpec.ofChange fnPointSpec)

/-- ITS FALSE NEIGHBOUR: 'it returns false'. Refute it at one input. -/
def fnPointWrong : ChangeSpec := { name := "fnPoint", fn := fun _ => fun
  | [d1, d2, d3] => { results := [.lit (.bool false)], args := [d1, d2, d3] }
  | _ => none }
def FnPointWrongFalsely : Prop := fnPointRow.holds Try.pinned (OpenSpec.ofChange fnPointWrong)

/-- 'laws.FnNew': WHATEVER THE INPUT: true; the input reads as it did. -/
def fnNewSpec : ChangeSpec := { name := "fnNew", fn := fun _ => fun
  | [d1, d2, d3, d4] => { results := [.lit (.bool true)], args := [d1, d2, d3, d4] }
  | _ => none }
def fnNewRow : OpenClaim := { program := "ythmfbkmdhnfbnaa", sum := "9fd30b1098fd6a42f639ab9118c8202c9c1646f20c19074187499b2d22d57096", func := "loop.example/pub-g03073/laws.FnNew", spec := "fnNew", inPlace := ["math.archLog", "math.Float64bits", "math.Float64frombits"], apart := false }
def FnNewSaid : Prop := fnNewRow.holds Try.pinned (OpenSpec.ofChange fnNewSpec)

/-- ITS FALSE NEIGHBOUR: 'it returns false'. Refute it at one input. -/
def fnNewWrong : ChangeSpec := { name := "fnNew", fn := fun _ => fun
  | [d1, d2, d3, d4] => { results := [.lit (.bool false)], args := [d1, d2, d3, d4] }
  | _ => none }
def FnNewWrongFalsely : Prop := fnNewRow.holds Try.pinned (OpenSpec.ofChange fnNewWrong)

/- THE SECOND FORM. 'bulk': how many values and letters a reading holds, each counted each time it is reached (what is shared counts as often as it is met; a slice's spare places count too). A statement '..UptoSaid' is the law's where the arguments, and the package variables that the reading takes, are together of bulk at most 1048576: NARROWER than '..Said'. Prove '..Said' where nothing that the law and all that it calls make is longer than what came in: it says more and counts as full. Else prove '..UptoSaid'. A law counts once. -/
mutual
def uptoBulk {H : Type} : DataW H → Nat
  | .lit (.string bytes) => bytes.length + 1
  | .lit _ => 1
  | .nil => 1
  | .ptr d => uptoBulk d + 1
  | .slice elems spare => uptoBulkAll elems + uptoBulkAll spare + 1
  | .agg parts => uptoBulkAll parts + 1
  | .iface _ d => uptoBulk d + 1
  | .map entries => uptoBulkEntries entries + 1
  | .held _ => 1
def uptoBulkAll {H : Type} : List (DataW H) → Nat
  | [] => 0
  | d :: r => uptoBulk d + uptoBulkAll r
def uptoBulkEntries {H : Type} : List (Lit × DataW H) → Nat
  | [] => 0
  | x :: r => uptoBulkEntry x + uptoBulkEntries r
def uptoBulkEntry {H : Type} : Lit × DataW H → Nat
  | (.string bytes, d) => bytes.length + uptoBulk d + 1
  | (_, d) => uptoBulk d + 1
 end
def uptoSmall : (H : Type) → List (DataW H) → Bool := fun _ ds => decide (uptoBulkAll ds ≤ 1048576)
def OpenSpec.upto (s : _root_.Go.ChangeSpec) : _root_.Go.OpenSpec := { _root_.Go.OpenSpec.ofChange s with cond := some uptoSmall }

/-- 'laws.FnMurmur', WHERE WHAT IT READS IS OF BULK AT MOST 1048576: true; the input reads as it did. -/
def fnMurmurUptoRow : OpenClaim := { program := "ythmfbkmdhnfbnaa", sum := "9fd30b1098fd6a42f639ab9118c8202c9c1646f20c19074187499b2d22d57096", func := "loop.example/pub-g03073/laws.FnMurmur", spec := "fnMurmur", unfollowed := true, recurses := true, named := ["encoding/binary.LittleEndian"], apart := false, narrowed := true }
def FnMurmurUptoSaid : Prop := fnMurmurUptoRow.holds Try.pinned (OpenSpec.upto fnMurmurSpec)

/-- 'laws.FnAdded', WHERE WHAT IT READS IS OF BULK AT MOST 1048576: true; the input reads as it did. -/
def fnAddedUptoRow : OpenClaim := { program := "ythmfbkmdhnfbnaa", sum := "9fd30b1098fd6a42f639ab9118c8202c9c1646f20c19074187499b2d22d57096", func := "loop.example/pub-g03073/laws.FnAdded", spec := "fnAdded", unfollowed := true, recurses := true, named := ["encoding/binary.LittleEndian"], apart := false, narrowed := true }
def FnAddedUptoSaid : Prop := fnAddedUptoRow.holds Try.pinned (OpenSpec.upto fnAddedSpec)

/-- 'laws.FnPoint', WHERE WHAT IT READS IS OF BULK AT MOST 1048576: true; the input reads as it did. -/
def fnPointUptoRow : OpenClaim := { program := "ythmfbkmdhnfbnaa", sum := "9fd30b1098fd6a42f639ab9118c8202c9c1646f20c19074187499b2d22d57096", func := "loop.example/pub-g03073/laws.FnPoint", spec := "fnPoint", unfollowed := true, recurses := true, named := ["encoding/binary.LittleEndian"], apart := false, narrowed := true }
def FnPointUptoSaid : Prop := fnPointUptoRow.holds Try.pinned (OpenSpec.upto fnPointSpec)

/-- 'laws.FnNew', WHERE WHAT IT READS IS OF BULK AT MOST 1048576: true; the input reads as it did. -/
def fnNewUptoRow : OpenClaim := { program := "ythmfbkmdhnfbnaa", sum := "9fd30b1098fd6a42f639ab9118c8202c9c1646f20c19074187499b2d22d57096", func := "loop.example/pub-g03073/laws.FnNew", spec := "fnNew", inPlace := ["math.archLog", "math.Float64bits", "math.Float64frombits"], apart := false, narrowed := true }
def FnNewUptoSaid : Prop := fnNewUptoRow.holds Try.pinned (OpenSpec.upto fnNewSpec)

end Rows
end Go.Proofs.Ythmfbkmdhnfbnaa
