/-
  DERIVED. GIVEN WITH THE SEED: THE CARDS: each row of YtpgfhcobfaceeaaDoorRows.lean that lists a variable, with what it lists TIED to the program's text (the seventh form; the later family's looks); each row that meets fmt, with fmt's text TOLD by the authors' own Lean function (tested against real Go, not proved from fmt's source: count such statements apart). THE CARD IS WHAT COUNTS. Prove the row's statement (the work); the ties are given (YtpgfhcobfaceeaaDoorTie.lean); close each card by the builder's one call (the guide's Derived/Test/ToyasCard.lean, 'card_holds'). Laid BY PROGRAM, IN A SANDBOX (cutbox-door.mjs). By AI agents, Wed Nov 11 2026. No macro, syntax, notation, axiom, sorry.
-/
import Derived.Test.YtpgfhcobfaceeaaDoorRows
import GoSem.ClaimSeven
namespace Go.Proofs.YtpgfhcobfaceeaaDoor
namespace Rows

/-- THE TIED CARD OF 'laws.FnUnBase58'. -/
def fnUnBase58Card : Claim7 := { stood := { row := fnUnBase58Row, standIns := [], harness := (true, "b3fd578f8fc1a56f1740eae21ee340e454a14d39bfdb49e65f62ef0eff286280"), looks := true }, kinds := [], alts := [], laidByText := true, laidKinds := [.data], laidTests := true, laidLooks := .later }
def FnUnBase58CardSaid : Prop := Claim7.holds Tryd.pinned (.plain (OpenSpec.ofChange fnUnBase58Spec)) fnUnBase58Card

/-- THE TIED CARD OF 'laws.FnBase58'. -/
def fnBase58Card : Claim7 := { stood := { row := fnBase58Row, standIns := [], harness := (true, "b3fd578f8fc1a56f1740eae21ee340e454a14d39bfdb49e65f62ef0eff286280"), looks := true }, kinds := [], alts := [], laidByText := true, laidKinds := [.data], laidTests := true, laidLooks := .later }
def FnBase58CardSaid : Prop := Claim7.holds Tryd.pinned (.plain (OpenSpec.ofChange fnBase58Spec)) fnBase58Card

/-- THE TIED CARD OF 'laws.FnUnCheck'. -/
def fnUnCheckCard : Claim7 := { stood := { row := fnUnCheckRow, standIns := [], harness := (true, "b3fd578f8fc1a56f1740eae21ee340e454a14d39bfdb49e65f62ef0eff286280"), looks := true }, kinds := [], alts := [], laidByText := true, laidKinds := [.data, .sentinel, .sentinel], laidTests := true, laidLooks := .later }
def FnUnCheckCardSaid : Prop := Claim7.holds Tryd.pinned (.plain (OpenSpec.ofChange fnUnCheckSpec)) fnUnCheckCard

/-- THE TIED CARD OF 'laws.FnCheck'. -/
def fnCheckCard : Claim7 := { stood := { row := fnCheckRow, standIns := [], harness := (true, "b3fd578f8fc1a56f1740eae21ee340e454a14d39bfdb49e65f62ef0eff286280"), looks := true }, kinds := [], alts := [], laidByText := true, laidKinds := [.data, .sentinel, .sentinel], laidTests := true, laidLooks := .later }
def FnCheckCardSaid : Prop := Claim7.holds Tryd.pinned (.plain (OpenSpec.ofChange fnCheckSpec)) fnCheckCard

/-- THE SECOND FORM's CARD OF 'laws.FnUnBase58'. -/
def fnUnBase58UptoCard : Claim7 := { stood := { row := fnUnBase58UptoRow, standIns := [], harness := (true, "b3fd578f8fc1a56f1740eae21ee340e454a14d39bfdb49e65f62ef0eff286280"), looks := true }, kinds := [], alts := [], laidByText := true, laidKinds := [.data], laidTests := true, laidLooks := .later }
def FnUnBase58UptoCardSaid : Prop := Claim7.holds Tryd.pinned (.plain (OpenSpec.upto fnUnBase58Spec)) fnUnBase58UptoCard

/-- THE SECOND FORM's CARD OF 'laws.FnBase58'. -/
def fnBase58UptoCard : Claim7 := { stood := { row := fnBase58UptoRow, standIns := [], harness := (true, "b3fd578f8fc1a56f1740eae21ee340e454a14d39bfdb49e65f62ef0eff286280"), looks := true }, kinds := [], alts := [], laidByText := true, laidKinds := [.data], laidTests := true, laidLooks := .later }
def FnBase58UptoCardSaid : Prop := Claim7.holds Tryd.pinned (.plain (OpenSpec.upto fnBase58Spec)) fnBase58UptoCard

/-- THE SECOND FORM's CARD OF 'laws.FnUnCheck'. -/
def fnUnCheckUptoCard : Claim7 := { stood := { row := fnUnCheckUptoRow, standIns := [], harness := (true, "b3fd578f8fc1a56f1740eae21ee340e454a14d39bfdb49e65f62ef0eff286280"), looks := true }, kinds := [], alts := [], laidByText := true, laidKinds := [.data, .sentinel, .sentinel], laidTests := true, laidLooks := .later }
def FnUnCheckUptoCardSaid : Prop := Claim7.holds Tryd.pinned (.plain (OpenSpec.upto fnUnCheckSpec)) fnUnCheckUptoCard

/-- THE SECOND FORM's CARD OF 'laws.FnCheck'. -/
def fnCheckUptoCard : Claim7 := { stood := { row := fnCheckUptoRow, standIns := [], harness := (true, "b3fd578f8fc1a56f1740eae21ee340e454a14d39bfdb49e65f62ef0eff286280"), looks := true }, kinds := [], alts := [], laidByText := true, laidKinds := [.data, .sentinel, .sentinel], laidTests := true, laidLooks := .later }
def FnCheckUptoCardSaid : Prop := Claim7.holds Tryd.pinned (.plain (OpenSpec.upto fnCheckSpec)) fnCheckUptoCard
end Rows
end Go.Proofs.YtpgfhcobfaceeaaDoor
