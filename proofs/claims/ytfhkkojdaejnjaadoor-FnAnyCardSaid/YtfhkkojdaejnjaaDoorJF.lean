/-
  cmp.Less at uint64.
-/
import Derived.Test.YtfhkkojdaejnjaaDoorProg
import Derived.Lib.Walk
import Derived.Sort.Row
import Derived.RowKit
import Derived.Sort.Walk0
set_option linter.unusedVariables false
namespace Go.Proofs.YtfhkkojdaejnjaaDoor.Srtu
open Go.RowKit Go.Sort Go.Proofs
set_option maxHeartbeats 1000000 in
theorem cmp_isNaN_u (x : Int) (w : World) : Calls Tryd.prog 75 #[.int .u64 x] w fun e w' => e = .returned (.bool false) ∧ w' = w := by
  go_enter Tryd.func75, Tryd.ntmps75
  go_wp2
  go_ret
  exact ⟨by simp, rfl⟩

set_option maxHeartbeats 1000000 in
theorem cmp_Less_u (x y : Int) (w : World) : Calls Tryd.prog 65 #[.int .u64 x, .int .u64 y] w fun e w' => e = .returned (.bool (Sort.ltInt x y)) ∧ w' = w := by
  go_enter Tryd.func65, Tryd.ntmps65
  go_wp2_with (go_at_call 75; refine (cmp_isNaN_u _ _).mono ?_; rintro e w' ⟨rfl, rfl⟩)
  go_ret
  exact ⟨rfl, rfl⟩

end Go.Proofs.YtfhkkojdaejnjaaDoor.Srtu
