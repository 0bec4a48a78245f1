/-
  DERIVED. GIVEN WITH THE SEED: THE CARDS: each row of YtleefaheifjelaaDoorRows.lean that lists a variable, with what it lists TIED to the program's text (the seventh form; the later family's looks); each row that meets fmt, with fmt's text TOLD by the authors' own Lean function (tested against real Go, not proved from fmt's source: count such statements apart). THE CARD IS WHAT COUNTS. Prove the row's statement (the work); the ties are given (YtleefaheifjelaaDoorTie.lean); close each card by the builder's one call (the guide's Derived/Test/ToyasCard.lean, 'card_holds'). Laid BY PROGRAM, IN A SANDBOX (cutbox-door.mjs). By AI agents, Wed Nov 11 2026. No macro, syntax, notation, axiom, sorry.
-/
import Derived.Test.YtleefaheifjelaaDoorRows
import GoSem.ClaimSeven
namespace Go.Proofs.YtleefaheifjelaaDoor
namespace Rows

/-- THE TIED CARD OF 'laws.FnToUnit'. -/
def fnToUnitCard : Claim7 := { stood := { row := fnToUnitRow, standIns := [], harness := (true, "08484ffbdf82111e11327a9be5b078a90353827ddd870b9c457ad83e19b1c439"), looks := false }, kinds := [], alts := [], laidByText := true, laidKinds := [.data, .data, .data], laidTests := true, laidLooks := .later }
def FnToUnitCardSaid : Prop := Claim7.holds Tryd.pinned (.plain (OpenSpec.ofChange fnToUnitSpec)) fnToUnitCard

/-- THE TIED CARD OF 'laws.FnUnitText'. -/
def fnUnitTextCard : Claim7 := { stood := { row := fnUnitTextRow, standIns := [], harness := (true, "08484ffbdf82111e11327a9be5b078a90353827ddd870b9c457ad83e19b1c439"), looks := false }, kinds := [], alts := [], laidByText := true, laidKinds := [.data, .data, .data], laidTests := true, laidLooks := .later }
def FnUnitTextCardSaid : Prop := Claim7.holds Tryd.pinned (.plain (OpenSpec.ofChange fnUnitTextSpec)) fnUnitTextCard

/-- THE SECOND FORM's CARD OF 'laws.FnToUnit'. -/
def fnToUnitUptoCard : Claim7 := { stood := { row := fnToUnitUptoRow, standIns := [], harness := (true, "08484ffbdf82111e11327a9be5b078a90353827ddd870b9c457ad83e19b1c439"), looks := false }, kinds := [], alts := [], laidByText := true, laidKinds := [.data, .data, .data], laidTests := true, laidLooks := .later }
def FnToUnitUptoCardSaid : Prop := Claim7.holds Tryd.pinned (.plain (OpenSpec.upto fnToUnitSpec)) fnToUnitUptoCard

/-- THE SECOND FORM's CARD OF 'laws.FnUnitText'. -/
def fnUnitTextUptoCard : Claim7 := { stood := { row := fnUnitTextUptoRow, standIns := [], harness := (true, "08484ffbdf82111e11327a9be5b078a90353827ddd870b9c457ad83e19b1c439"), looks := false }, kinds := [], alts := [], laidByText := true, laidKinds := [.data, .data, .data], laidTests := true, laidLooks := .later }
def FnUnitTextUptoCardSaid : Prop := Claim7.holds Tryd.pinned (.plain (OpenSpec.upto fnUnitTextSpec)) fnUnitTextUptoCard
end Rows
end Go.Proofs.YtleefaheifjelaaDoor
