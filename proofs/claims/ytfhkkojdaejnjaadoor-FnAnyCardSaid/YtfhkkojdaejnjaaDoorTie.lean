/-
  DERIVED. GIVEN WITH THE SEED: THE PROGRAM's TIES (one call each: nine closed facts by the kernel) AND EACH ROW's TIE, after the 31st guide's Derived/Test/Toyas{Tie, Card}.lean. No idea stands in it: it is a product of the set-up. Laid BY PROGRAM, IN A SANDBOX (cutbox-door.mjs). By AI agents, Wed Nov 11 2026. No macro, syntax, notation, axiom, sorry.
-/
import Derived.Test.YtfhkkojdaejnjaaDoorRows
import Derived.LaidByTextLater
import Derived.SevenTiedAt
import Derived.LaidSub
import Derived.LaidOnce
namespace Go.Proofs.YtfhkkojdaejnjaaDoor
open Go
set_option maxRecDepth 100000
theorem seatTie1 : Tryd.prog.laidByTextLater [("io.EOF", Rows.laid_io_EOF), ("io.ErrUnexpectedEOF", Rows.laid_io_ErrUnexpectedEOF), ("loop.example/pub-g03073/pub/gcs.ErrNTooBig", Rows.laid_loop_example_pub_g03073_pub_gcs_ErrNTooBig), ("loop.example/pub-g03073/pub/gcs.ErrPTooBig", Rows.laid_loop_example_pub_g03073_pub_gcs_ErrPTooBig)] [.sentinel, .sentinel, .sentinel, .sentinel] true :=
  Program.laidByTextLater_by_one 85 8 2 (by kernel_rfl) (by kernel_rfl) (by kernel_rfl) (by kernel_rfl) (by kernel_rfl) (by kernel_rfl) (fun _ _ => by kernel_rfl)
theorem noOwnUnsafe : Tryd.pinned.checked.prog.headLifts.contains "ownunsafe" = false := by kernel_rfl
theorem tie : Tryd.prog.laidByTextLater [("io.EOF", Rows.laid_io_EOF), ("loop.example/pub-g03073/pub/gcs.ErrNTooBig", Rows.laid_loop_example_pub_g03073_pub_gcs_ErrNTooBig), ("loop.example/pub-g03073/pub/gcs.ErrPTooBig", Rows.laid_loop_example_pub_g03073_pub_gcs_ErrPTooBig)] [.sentinel, .sentinel, .sentinel] true :=
  Program.laidByTextLater.sub seatTie1 ["io.EOF", "loop.example/pub-g03073/pub/gcs.ErrNTooBig", "loop.example/pub-g03073/pub/gcs.ErrPTooBig"] (by kernel_rfl) (by kernel_rfl)
theorem fnBuilt_row_tie : Rows.fnBuiltRow.laidByTextAt .later Tryd.pinned [.sentinel, .sentinel, .sentinel] true :=
  OpenClaim.laidByTextAt_later rfl rfl tie noOwnUnsafe
theorem fnAny_row_tie : Rows.fnAnyRow.laidByTextAt .later Tryd.pinned [.sentinel, .sentinel, .sentinel] true :=
  OpenClaim.laidByTextAt_later rfl rfl tie noOwnUnsafe
theorem tie2 : Tryd.prog.laidByTextLater [("io.EOF", Rows.laid_io_EOF), ("io.ErrUnexpectedEOF", Rows.laid_io_ErrUnexpectedEOF), ("loop.example/pub-g03073/pub/gcs.ErrNTooBig", Rows.laid_loop_example_pub_g03073_pub_gcs_ErrNTooBig), ("loop.example/pub-g03073/pub/gcs.ErrPTooBig", Rows.laid_loop_example_pub_g03073_pub_gcs_ErrPTooBig)] [.sentinel, .sentinel, .sentinel, .sentinel] true :=
  Program.laidByTextLater.sub seatTie1 ["io.EOF", "io.ErrUnexpectedEOF", "loop.example/pub-g03073/pub/gcs.ErrNTooBig", "loop.example/pub-g03073/pub/gcs.ErrPTooBig"] (by kernel_rfl) (by kernel_rfl)
theorem fnForms_row_tie : Rows.fnFormsRow.laidByTextAt .later Tryd.pinned [.sentinel, .sentinel, .sentinel, .sentinel] true :=
  OpenClaim.laidByTextAt_later rfl rfl tie2 noOwnUnsafe
theorem fnBuiltUpto_row_tie : Rows.fnBuiltUptoRow.laidByTextAt .later Tryd.pinned [.sentinel, .sentinel, .sentinel] true :=
  OpenClaim.laidByTextAt_later rfl rfl tie noOwnUnsafe
theorem fnAnyUpto_row_tie : Rows.fnAnyUptoRow.laidByTextAt .later Tryd.pinned [.sentinel, .sentinel, .sentinel] true :=
  OpenClaim.laidByTextAt_later rfl rfl tie noOwnUnsafe
theorem fnFormsUpto_row_tie : Rows.fnFormsUptoRow.laidByTextAt .later Tryd.pinned [.sentinel, .sentinel, .sentinel, .sentinel] true :=
  OpenClaim.laidByTextAt_later rfl rfl tie2 noOwnUnsafe
end Go.Proofs.YtfhkkojdaejnjaaDoor
