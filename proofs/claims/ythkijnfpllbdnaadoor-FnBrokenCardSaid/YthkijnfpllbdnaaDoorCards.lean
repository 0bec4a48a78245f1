/-
  DERIVED. GIVEN WITH THE SEED: THE CARDS: each row of YthkijnfpllbdnaaDoorRows.lean that lists a variable, with what it lists TIED to the program's text (the seventh form; the later family's looks); each row that meets fmt, with fmt's text TOLD by the authors' own Lean function (tested against real Go, not proved from fmt's source: count such statements apart). THE CARD IS WHAT COUNTS. Prove the row's statement (the work); the ties are given (YthkijnfpllbdnaaDoorTie.lean); close each card by the builder's one call (the guide's Derived/Test/ToyasCard.lean, 'card_holds'). Laid BY PROGRAM, IN A SANDBOX (cutbox-door.mjs). By AI agents, Wed Nov 11 2026. No macro, syntax, notation, axiom, sorry.
-/
import Derived.Test.YthkijnfpllbdnaaDoorRows
import GoSem.ClaimSeven
namespace Go.Proofs.YthkijnfpllbdnaaDoor
namespace Rows

/-- THE TIED CARD OF 'laws.FnUnBech32'. -/
def fnUnBech32Card : Claim7 := { stood := { row := fnUnBech32Row, standIns := [], harness := (true, "6b18d117015c806edc6f1baf9fbb543f3f8498b9b6591d9ca12d2958060e7fff"), looks := false }, kinds := [], alts := [], laidByText := true, laidKinds := [.data, .data, .pinned, .pinned], laidTests := true, laidLooks := .later }
def FnUnBech32CardSaid : Prop := Claim7.holds Tryd.pinned (.plain (OpenSpec.ofChange fnUnBech32Spec)) fnUnBech32Card

/-- THE TIED CARD OF 'laws.FnBroken'. -/
def fnBrokenCard : Claim7 := { stood := { row := fnBrokenRow, standIns := [], harness := (true, "6b18d117015c806edc6f1baf9fbb543f3f8498b9b6591d9ca12d2958060e7fff"), looks := false }, kinds := [], alts := [], laidByText := true, laidKinds := [.data, .data, .pinned, .pinned], laidTests := true, laidLooks := .later }
def FnBrokenCardSaid : Prop := Claim7.holds Tryd.pinned (.plain (OpenSpec.ofChange fnBrokenSpec)) fnBrokenCard

/-- THE TIED CARD OF 'laws.FnBech32'. -/
def fnBech32Card : Claim7 := { stood := { row := fnBech32Row, standIns := [], harness := (true, "6b18d117015c806edc6f1baf9fbb543f3f8498b9b6591d9ca12d2958060e7fff"), looks := false }, kinds := [], alts := [], laidByText := true, laidKinds := [.data, .data, .pinned, .pinned], laidTests := true, laidLooks := .later }
def FnBech32CardSaid : Prop := Claim7.holds Tryd.pinned (.plain (OpenSpec.ofChange fnBech32Spec)) fnBech32Card

/-- THE SECOND FORM's CARD OF 'laws.FnUnBech32'. -/
def fnUnBech32UptoCard : Claim7 := { stood := { row := fnUnBech32UptoRow, standIns := [], harness := (true, "6b18d117015c806edc6f1baf9fbb543f3f8498b9b6591d9ca12d2958060e7fff"), looks := false }, kinds := [], alts := [], laidByText := true, laidKinds := [.data, .data, .pinned, .pinned], laidTests := true, laidLooks := .later }
def FnUnBech32UptoCardSaid : Prop := Claim7.holds Tryd.pinned (.plain (OpenSpec.upto fnUnBech32Spec)) fnUnBech32UptoCard

/-- THE SECOND FORM's CARD OF 'laws.FnBroken'. -/
def fnBrokenUptoCard : Claim7 := { stood := { row := fnBrokenUptoRow, standIns := [], harness := (true, "6b18d117015c806edc6f1baf9fbb543f3f8498b9b6591d9ca12d2958060e7fff"), looks := false }, kinds := [], alts := [], laidByText := true, laidKinds := [.data, .data, .pinned, .pinned], laidTests := true, laidLooks := .later }
def FnBrokenUptoCardSaid : Prop := Claim7.holds Tryd.pinned (.plain (OpenSpec.upto fnBrokenSpec)) fnBrokenUptoCard

/-- THE SECOND FORM's CARD OF 'laws.FnBech32'. -/
def fnBech32UptoCard : Claim7 := { stood := { row := fnBech32UptoRow, standIns := [], harness := (true, "6b18d117015c806edc6f1baf9fbb543f3f8498b9b6591d9ca12d2958060e7fff"), looks := false }, kinds := [], alts := [], laidByText := true, laidKinds := [.data, .data, .pinned, .pinned], laidTests := true, laidLooks := .later }
def FnBech32UptoCardSaid : Prop := Claim7.holds Tryd.pinned (.plain (OpenSpec.upto fnBech32Spec)) fnBech32UptoCard
end Rows
end Go.Proofs.YthkijnfpllbdnaaDoor
