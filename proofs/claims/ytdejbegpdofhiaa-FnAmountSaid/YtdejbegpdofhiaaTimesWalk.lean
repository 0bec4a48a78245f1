import Derived.Test.YtdejbegpdofhiaaRows
import Derived.Test.YtdejbegpdofhiaaFl
import Derived.WalkKit
import Derived.WalkLawsBesides
import Derived.BigGuardPart
import Derived.Lib.Hide
namespace Go.Proofs.Ytdejbegpdofhiaa
open Go.RowKit FlPlain

/-- 'round' at what stands for a whole number. -/
theorem round_neg (x r : Nat) (n : Int) (w : World) (h1 : (FloatKind.f64.format.order x 0 == some Ordering.lt) = true) (h2 : Ieee.double.sub x 4602678819172646912 = some r) (h3 : floatToIntVal .f64 r .i64 = some n) :
    Calls Try.prog 10 #[.float .f64 x] w fun e w' => e = .returned (.int .i64 n) ∧ w = w' := by
  have hs : ∀ w, (binOp .sub 24 (.float .f64 x) (.float .f64 4602678819172646912)).run Try.prog w = .ok (.float .f64 r) w := fun w => run_float_arith w .sub 24 .f64 _ _ _ h2
  have hc : ∀ w, (convert 24 28 (.float .f64 r)).run Try.prog w = .ok (.int .i64 n) w := fun w => run_convert_float_int w 24 28 .f64 .i64 r n (by kernel_rfl) (by kernel_rfl) h3
  clear h2 h3
  go_enter Try.func10, Try.ntmps10
  go_wp2
  go_ret
  exact ⟨rfl, rfl⟩

theorem round_pos (x r : Nat) (n : Int) (w : World) (h1 : (FloatKind.f64.format.order x 0 == some Ordering.lt) = false) (h2 : Ieee.double.add x 4602678819172646912 = some r) (h3 : floatToIntVal .f64 r .i64 = some n) :
    Calls Try.prog 10 #[.float .f64 x] w fun e w' => e = .returned (.int .i64 n) ∧ w = w' := by
  have hs : ∀ w, (binOp .add 24 (.float .f64 x) (.float .f64 4602678819172646912)).run Try.prog w = .ok (.float .f64 r) w := fun w => run_float_arith w .add 24 .f64 _ _ _ h2
  have hc : ∀ w, (convert 24 28 (.float .f64 r)).run Try.prog w = .ok (.int .i64 n) w := fun w => run_convert_float_int w 24 28 .f64 .i64 r n (by kernel_rfl) (by kernel_rfl) h3
  clear h2 h3
  go_enter Try.func10, Try.ntmps10
  go_wp2
  go_ret
  exact ⟨rfl, rfl⟩

/-- 'round' of what stands for n is n. -/
theorem round_any (x : Nat) (n : Int) (w : World) (h : Is x (n * (U : Int))) (hn : n.natAbs < 2 ^ 51) :
    Calls Try.prog 10 #[.float .f64 x] w fun e w' => e = .returned (.int .i64 n) ∧ w = w' := by
  obtain ⟨h1, h2⟩ := round_whole h hn
  rcases Int.lt_or_le n 0 with g | g
  · obtain ⟨a, r, b, c⟩ := h1 g
    refine round_neg x r n w ?_ b c
    have e : FloatKind.f64.format.order x 0 = Ieee.double.order x 0 := rfl
    rw [e, a]; rfl
  · obtain ⟨a, r, b, c⟩ := h2 g
    exact round_pos x r n w a b c

/-- 'Times': both in range. -/
theorem times_any (a k : Int) (w : World) (ha0 : -10000000000 ≤ a) (ha1 : a ≤ 10000000000) (hk0 : -100000 ≤ k) (hk1 : k ≤ 100000) :
    Calls Try.prog 5 #[.int .i64 a, .float .f64 (floatOfInt .f64 k)] w fun e w' => e = .returned (.tuple #[.int .i64 (a * k), .bool true]) ∧ w = w' := by
  have hb : (a * k).natAbs ≤ 1000000000000000 := by
    rw [Int.natAbs_mul]
    exact Nat.le_trans (Nat.mul_le_mul (show a.natAbs ≤ 10000000000 by omega) (show k.natAbs ≤ 100000 by omega)) (by decide)
  have hx : Is (floatOfInt .f64 a) (a * (U : Int)) := is_int a (by omega)
  have hy : Is (floatOfInt .f64 k) (k * (U : Int)) := is_int k (by omega)
  obtain ⟨p, hp, hz⟩ := mul_whole hx hy (by omega)
  have R := round_any p (a * k) w hz (by omega)
  have o1 : FloatKind.f64.format.order p 14099575734042281984 = some .gt := order_lo hz (by omega)
  have o2 : FloatKind.f64.format.order p 4876203697187506176 = some .lt := order_hi hz (by omega)
  have hm : ∀ w, (binOp .mul 24 (.float .f64 (floatOfInt .f64 a)) (.float .f64 (floatOfInt .f64 k))).run Try.prog w = .ok (.float .f64 p) w := fun w => run_float_arith w .mul 24 .f64 _ _ _ hp
  have R' := Lib.hid R
  clear R hp hz hx hy hb
  go_enter Try.func5, Try.ntmps5
  have l1 : -1000000000000000000 ≤ a := by omega
  have l2 : a ≤ 1000000000000000000 := by omega
  go_wp2_with (first | (go_at_call 10; refine R'.out.mono ?_; rintro e w' ⟨rfl, rfl⟩) | go_in)
  go_ret2
  exact ⟨rfl, rfl⟩

theorem law_out (a k : Int) (w : World) (h : a < -10000000000 ∨ 10000000000 < a ∨ k < -100000 ∨ 100000 < k) :
    Calls Try.prog 3 #[.int .i64 a, .int .i64 k] w fun e w' => e = .returned (.bool true) ∧ w = w' := by
  by_cases h1 : a < -10000000000
  · go_enter Try.func3, Try.ntmps3
    go_wp2
    go_ret
    exact ⟨rfl, rfl⟩
  by_cases h2 : 10000000000 < a
  · go_enter Try.func3, Try.ntmps3
    go_wp2
    go_ret
    exact ⟨rfl, rfl⟩
  by_cases h3 : k < -100000
  · go_enter Try.func3, Try.ntmps3
    go_wp2
    go_ret
    exact ⟨rfl, rfl⟩
  have h4 : 100000 < k := by omega
  clear h
  go_enter Try.func3, Try.ntmps3
  go_wp2
  go_ret
  exact ⟨rfl, rfl⟩

theorem law_in (a k : Int) (w : World) (ha0 : -10000000000 ≤ a) (ha1 : a ≤ 10000000000) (hk0 : -100000 ≤ k) (hk1 : k ≤ 100000) :
    Calls Try.prog 3 #[.int .i64 a, .int .i64 k] w fun e w' => e = .returned (.bool true) ∧ w = w' := by
  have hb : (a * k).natAbs ≤ 1000000000000000 := by
    rw [Int.natAbs_mul]
    exact Nat.le_trans (Nat.mul_le_mul (show a.natAbs ≤ 10000000000 by omega) (show k.natAbs ≤ 100000 by omega)) (by decide)
  have hb0 : -1000000000000000 ≤ a * k := by omega
  have hb1 : a * k ≤ 1000000000000000 := by omega
  have T1 := Lib.hid (times_any a k w ha0 ha1 hk0 hk1)
  have T2 : Hid (Calls Try.prog 5 #[.int .i64 3, .float .f64 4611686018427387904] w fun e w' => e = .returned (.tuple #[.int .i64 (3 * 2), .bool true]) ∧ w = w') := Lib.hid (by
    have := times_any 3 2 w (by omega) (by omega) (by omega) (by omega)
    rwa [show floatOfInt .f64 2 = 4611686018427387904 from by decide +kernel] at this)
  clear hb
  go_enter Try.func3, Try.ntmps3
  go_wp2_with fail
  refine T1.out.mono ?_
  rintro e w' ⟨rfl, rfl⟩
  go_wp2_with fail
  refine T2.out.mono ?_
  rintro e w' ⟨rfl, rfl⟩
  go_wp2
  go_ret
  exact ⟨rfl, rfl⟩
end Go.Proofs.Ytdejbegpdofhiaa
