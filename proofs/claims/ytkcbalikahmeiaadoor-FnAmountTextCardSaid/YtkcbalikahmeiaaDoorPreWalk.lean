/-
  prescale.
-/
import Derived.Test.YtkcbalikahmeiaaDoorShortPure
namespace Go.Proofs.YtkcbalikahmeiaaDoor.Aft
open Go.RowKit Go.Proofs.YtkcbalikahmeiaaDoor.PFnAmountText Go.Proofs.YtkcbalikahmeiaaDoorW.PrintWords Go.Proofs.YtkcbalikahmeiaaDoorW.PrintLast Go.Proofs.YtkcbalikahmeiaaDoorW.PrintMore

set_option maxRecDepth 100000 in
set_option maxHeartbeats 4000000 in
theorem pre_calls (w0 w : World) (g p : Nat) (f0 f1 f2 e l : Int) (hh hl : Int) (hI : IsS79 w0 w g f0 f1 f2) (hB : Below w0.heap.size w0 w) (h6 : 6 < w0.heap.size) (hp : p ≤ 40) (he : -200 ≤ e ∧ e ≤ 200) (hlp : -200 ≤ l ∧ l ≤ 200)
    (c0 : w.cell? ⟨6, (p + 348) * 2, none⟩ = some (.int .u64 hh)) (c1 : w.cell? ⟨6, (p + 348) * 2 + 1, none⟩ = some (.int .u64 hl)) :
    Calls Tryd.prog 45 #[.pointer (some ⟨g, 0, none⟩), .int .i64 e, .int .i64 (p : Int), .int .i64 l] w fun r w' => r = .returned (.tuple #[]) ∧ IsS79 w0 w' g hh hl (-(e + l + 3)) ∧ Below w0.heap.size w0 w' := by
  have hg6 : g ≠ 6 := by have := hI.ge; omega
  have HI := Aside0.mk hI
  have HB := Aside0.mk hB
  have z0 := cellS79_0 hI.1
  have z1 := cellS79_1 hI.1
  have z2 := cellS79_2 hI.1
  have y0 := blk_frozen hI.1 0
  have y1 := blk_frozen hI.1 1
  have y2 := blk_frozen hI.1 2
  have hq : ((p : Int) + 348) < 696 := by omega
  have hq0 : 0 ≤ ((p : Int) + 348) := by omega
  clear hI hB
  go_enter Tryd.func45, Tryd.ntmps45
  go_wp2
  have hg : w0.heap.size ≤ g := HI.out.ge
  exact bodyPost_end (results_none rfl _ _ _) rfl ⟨rfl, ((HI.out.set_0 hh).set_1 hl).set_2 _, ((HB.out.setCell hg _).setCell hg _).setCell hg _⟩
end Go.Proofs.YtkcbalikahmeiaaDoor.Aft
