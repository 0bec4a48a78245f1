/-
  bits.Len of a small number: some number.
-/
import Derived.Test.YtpggphjnghhmeaaSortWalk
namespace Go.Proofs.Ytpggphjnghhmeaa.Srt
open Go.RowKit Go.Proofs.Ytpggphjnghhmeaa.Hand Go.Proofs.Ytpggphjnghhmeaa.PFnSorted Go.Proofs.YtpggphjnghhmeaaW.PrintWords Go.Proofs.YtpggphjnghhmeaaW.PrintLast Go.Proofs.YtpggphjnghhmeaaW.PrintMore

set_option maxRecDepth 100000 in
theorem len64_calls (n : Nat) (h2 : 2 ≤ n) (h12 : n ≤ 12) (w : World) : Calls Try.prog 24 #[.int .u64 n] w fun e w' => (∃ r, e = .returned (.int .i64 r)) ∧ w = w' := by
  have : n = 2 ∨ n = 3 ∨ n = 4 ∨ n = 5 ∨ n = 6 ∨ n = 7 ∨ n = 8 ∨ n = 9 ∨ n = 10 ∨ n = 11 ∨ n = 12 := by omega
  rcases this with rfl | rfl | rfl | rfl | rfl | rfl | rfl | rfl | rfl | rfl | rfl
  all_goals
    clear h2 h12
    go_enter Try.func24, Try.ntmps24
    go_wp2
    go_ret
    exact ⟨⟨_, rfl⟩, rfl⟩
theorem len_calls (n : Nat) (h2 : 2 ≤ n) (h12 : n ≤ 12) (w : World) : Calls Try.prog 21 #[.int .u64 n] w fun e w' => (∃ r, e = .returned (.int .i64 r)) ∧ w = w' := by
  have H := Aside0.mk (len64_calls n h2 h12)
  clear h2 h12
  go_enter Try.func21, Try.ntmps21
  go_wp2_with (first | (go_at_call 24; refine (H.out _).mono ?_; rintro e w1 ⟨⟨r, rfl⟩, rfl⟩) | fail)
  go_ret
  exact ⟨⟨_, rfl⟩, rfl⟩
end Go.Proofs.Ytpggphjnghhmeaa.Srt
