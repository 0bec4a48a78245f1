/-
  DERIVED. GIVEN WITH THE SEED: THE CARDS: each row of YtkcbalikahmeiaaDoorRows.lean that lists a variable, with what it lists TIED to the program's text (the seventh form; the later family's looks); each row that meets fmt, with fmt's text TOLD by the authors' own Lean function (tested against real Go, not proved from fmt's source: count such statements apart). THE CARD IS WHAT COUNTS. Prove the row's statement (the work); the ties are given (YtkcbalikahmeiaaDoorTie.lean); close each card by the builder's one call (the guide's Derived/Test/ToyasCard.lean, 'card_holds'). Laid BY PROGRAM, IN A SANDBOX (cutbox-door.mjs). By AI agents, Wed Nov 11 2026. No macro, syntax, notation, axiom, sorry.
-/
import Derived.Test.YtkcbalikahmeiaaDoorRows
import GoSem.ClaimSeven
namespace Go.Proofs.YtkcbalikahmeiaaDoor
namespace Rows

/-- THE TIED CARD OF 'laws.FnAmountText'. -/
def fnAmountTextCard : Claim7 := { stood := { row := fnAmountTextRow, standIns := [], harness := (true, "ba4466a4f77f7cfe6c0603c6711f029e9b47a1435190955806594c7341ac0d2a"), looks := false }, kinds := [], alts := [], laidByText := true, laidKinds := [.data, .data, .data, .data, .data, .data, .data, .pinned, .pinned], laidTests := true, laidLooks := .later }
def FnAmountTextCardSaid : Prop := Claim7.holds Tryd.pinned (.plain (OpenSpec.ofChange fnAmountTextSpec)) fnAmountTextCard

/-- THE SECOND FORM's CARD OF 'laws.FnAmountText'. -/
def fnAmountTextUptoCard : Claim7 := { stood := { row := fnAmountTextUptoRow, standIns := [], harness := (true, "ba4466a4f77f7cfe6c0603c6711f029e9b47a1435190955806594c7341ac0d2a"), looks := false }, kinds := [], alts := [], laidByText := true, laidKinds := [.data, .data, .data, .data, .data, .data, .data, .pinned, .pinned], laidTests := true, laidLooks := .later }
def FnAmountTextUptoCardSaid : Prop := Claim7.holds Tryd.pinned (.plain (OpenSpec.upto fnAmountTextSpec)) fnAmountTextUptoCard
end Rows
end Go.Proofs.YtkcbalikahmeiaaDoor
