/-
  DERIVED. GIVEN WITH THE SEED: THE CARDS: each row of YtfhkkojdaejnjaaDoorRows.lean that lists a variable, with what it lists TIED to the program's text (the seventh form; the later family's looks); each row that meets fmt, with fmt's text TOLD by the authors' own Lean function (tested against real Go, not proved from fmt's source: count such statements apart). THE CARD IS WHAT COUNTS. Prove the row's statement (the work); the ties are given (YtfhkkojdaejnjaaDoorTie.lean); close each card by the builder's one call (the guide's Derived/Test/ToyasCard.lean, 'card_holds'). Laid BY PROGRAM, IN A SANDBOX (cutbox-door.mjs). By AI agents, Wed Nov 11 2026. No macro, syntax, notation, axiom, sorry.
-/
import Derived.Test.YtfhkkojdaejnjaaDoorRows
import GoSem.ClaimSeven
namespace Go.Proofs.YtfhkkojdaejnjaaDoor
namespace Rows

/-- THE TIED CARD OF 'laws.FnBuilt'. -/
def fnBuiltCard : Claim7 := { stood := { row := fnBuiltRow, standIns := [], harness := (true, "7077d5d38aa8f4a98d169bde7ba4bd329f2109a0ecee11dc98c93880421e5172"), looks := true }, kinds := [], alts := [], laidByText := true, laidKinds := [.sentinel, .sentinel, .sentinel], laidTests := true, laidLooks := .later }
def FnBuiltCardSaid : Prop := Claim7.holds Tryd.pinned (.plain (OpenSpec.ofChange fnBuiltSpec)) fnBuiltCard

/-- THE TIED CARD OF 'laws.FnAny'. -/
def fnAnyCard : Claim7 := { stood := { row := fnAnyRow, standIns := [], harness := (true, "7077d5d38aa8f4a98d169bde7ba4bd329f2109a0ecee11dc98c93880421e5172"), looks := true }, kinds := [], alts := [], laidByText := true, laidKinds := [.sentinel, .sentinel, .sentinel], laidTests := true, laidLooks := .later }
def FnAnyCardSaid : Prop := Claim7.holds Tryd.pinned (.plain (OpenSpec.ofChange fnAnySpec)) fnAnyCard

/-- THE TIED CARD OF 'laws.FnForms'. -/
def fnFormsCard : Claim7 := { stood := { row := fnFormsRow, standIns := [], harness := (true, "7077d5d38aa8f4a98d169bde7ba4bd329f2109a0ecee11dc98c93880421e5172"), looks := true }, kinds := [], alts := [], laidByText := true, laidKinds := [.sentinel, .sentinel, .sentinel, .sentinel], laidTests := true, laidLooks := .later }
def FnFormsCardSaid : Prop := Claim7.holds Tryd.pinned (.plain (OpenSpec.ofChange fnFormsSpec)) fnFormsCard

/-- THE SECOND FORM's CARD OF 'laws.FnBuilt'. -/
def fnBuiltUptoCard : Claim7 := { stood := { row := fnBuiltUptoRow, standIns := [], harness := (true, "7077d5d38aa8f4a98d169bde7ba4bd329f2109a0ecee11dc98c93880421e5172"), looks := true }, kinds := [], alts := [], laidByText := true, laidKinds := [.sentinel, .sentinel, .sentinel], laidTests := true, laidLooks := .later }
def FnBuiltUptoCardSaid : Prop := Claim7.holds Tryd.pinned (.plain (OpenSpec.upto fnBuiltSpec)) fnBuiltUptoCard

/-- THE SECOND FORM's CARD OF 'laws.FnAny'. -/
def fnAnyUptoCard : Claim7 := { stood := { row := fnAnyUptoRow, standIns := [], harness := (true, "7077d5d38aa8f4a98d169bde7ba4bd329f2109a0ecee11dc98c93880421e5172"), looks := true }, kinds := [], alts := [], laidByText := true, laidKinds := [.sentinel, .sentinel, .sentinel], laidTests := true, laidLooks := .later }
def FnAnyUptoCardSaid : Prop := Claim7.holds Tryd.pinned (.plain (OpenSpec.upto fnAnySpec)) fnAnyUptoCard

/-- THE SECOND FORM's CARD OF 'laws.FnForms'. -/
def fnFormsUptoCard : Claim7 := { stood := { row := fnFormsUptoRow, standIns := [], harness := (true, "7077d5d38aa8f4a98d169bde7ba4bd329f2109a0ecee11dc98c93880421e5172"), looks := true }, kinds := [], alts := [], laidByText := true, laidKinds := [.sentinel, .sentinel, .sentinel, .sentinel], laidTests := true, laidLooks := .later }
def FnFormsUptoCardSaid : Prop := Claim7.holds Tryd.pinned (.plain (OpenSpec.upto fnFormsSpec)) fnFormsUptoCard
end Rows
end Go.Proofs.YtfhkkojdaejnjaaDoor
