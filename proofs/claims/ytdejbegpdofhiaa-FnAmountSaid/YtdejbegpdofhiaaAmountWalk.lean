import Derived.Test.YtdejbegpdofhiaaTimesWalk
import Derived.BigQuiet
import Derived.Deep.QuietTactic
namespace Go.Proofs.Ytdejbegpdofhiaa
open Go.RowKit FlPlain

/-- 'Amount' of a double: what it asks of it. -/
theorem amount_calls (f g : Nat) (n : Int) (w : World) (o1 : (FloatKind.f64.format.order f 4756540486875873280 == some Ordering.gt) = false) (o2 : (FloatKind.f64.format.order f 13979912523730649088 == some Ordering.lt) = false)
    (o3 : (FloatKind.f64.format.order f f != some Ordering.eq) = false) (o4 : (FloatKind.f64.format.order f 9218868437227405311 == some Ordering.gt) = false) (o5 : (FloatKind.f64.format.order (Op.negFloat .f64 f) 9218868437227405311 == some Ordering.gt) = false)
    (hg : Ieee.double.mul f 4726483295884279808 = some g) (hr : ∀ w, Calls Try.prog 10 #[.float .f64 g] w fun e w' => e = .returned (.int .i64 n) ∧ w = w') :
    Calls Try.prog 6 #[.float .f64 f] w fun e w' => e = .returned (.tuple #[.int .i64 n, .bool true]) ∧ ∃ n, w' = w.drewN n := by
  have hm : ∀ w, (binOp .mul 24 (.float .f64 f) (.float .f64 4726483295884279808)).run Try.prog w = .ok (.float .f64 g) w := fun w => run_float_arith w .mul 24 .f64 _ _ _ hg
  have hn : ∀ w, (Op.unary .neg (.float .f64 f)).run Try.prog w = .ok (.float .f64 (Op.negFloat .f64 f)) w := fun _ => rfl
  have R := Lib.hid hr
  clear hr hg
  go_enter Try.func6, Try.ntmps6
  go_wp2_with (first | (go_at_call 10; refine (R.out _).mono ?_; rintro e w' ⟨rfl, rfl⟩) | go_in)
  go_quiet (fail)
  go_wp2
  go_ret2
  exact ⟨rfl, _, rfl⟩

theorem is_big : Is 4756540486875873280 (10000000000 * (U : Int)) := by
  have := is_int 10000000000 (by decide)
  rwa [show Ieee.double.write (.number ((10000000000 : Int) < 0) (10000000000 : Int).natAbs 0) = 4756540486875873280 from by decide +kernel] at this
theorem is_small : Is 13979912523730649088 (-10000000000 * (U : Int)) := by
  have := is_int (-10000000000) (by decide)
  rwa [show Ieee.double.write (.number ((-10000000000 : Int) < 0) (-10000000000 : Int).natAbs 0) = 13979912523730649088 from by decide +kernel] at this

theorem eqb_gt {o : Option Ordering} (h : o = some .lt) : (o == some Ordering.gt) = false := by rw [h]; rfl
theorem eqb_lt {o : Option Ordering} (h : o = some .gt) : (o == some Ordering.lt) = false := by rw [h]; rfl
theorem neb_eq {o : Option Ordering} (h : o = some .eq) : (o != some Ordering.eq) = false := by rw [h]; rfl

/-- What a double of moderate size passes. -/
theorem passes {f : Nat} {v : Int} (h : Is f v) (h1 : -20000000 * (U : Int) < v) (h2 : v < 20000000 * (U : Int)) :
    (FloatKind.f64.format.order f 4756540486875873280 == some Ordering.gt) = false ∧ (FloatKind.f64.format.order f 13979912523730649088 == some Ordering.lt) = false ∧
    (FloatKind.f64.format.order f f != some Ordering.eq) = false ∧ (FloatKind.f64.format.order f 9218868437227405311 == some Ordering.gt) = false ∧ (FloatKind.f64.format.order (Op.negFloat .f64 f) 9218868437227405311 == some Ordering.gt) = false := by
  have hU := U_pos
  obtain ⟨c, hc, hc1⟩ := is_max
  have hbig : (10000000000 : Int) * (U : Int) ≤ c * (U : Int) := Int.mul_le_mul_of_nonneg_right hc1 (by omega)
  refine ⟨eqb_gt ?_, eqb_lt ?_, neb_eq ?_, eqb_gt ?_, eqb_gt ?_⟩
  · exact (is_order h is_big).trans (by rw [cmp_lt (by omega)])
  · exact (is_order h is_small).trans (by rw [cmp_gt (by omega)])
  · exact (is_order h h).trans (by rw [cmp_eq rfl])
  · exact (is_order h hc).trans (by rw [cmp_lt (by omega)])
  · exact (is_order (is_neg h) hc).trans (by rw [cmp_lt (by omega)])

/-- One bitcoin. -/
theorem amount_one (w : World) : Calls Try.prog 6 #[.float .f64 4607182418800017408] w fun e w' => e = .returned (.tuple #[.int .i64 100000000, .bool true]) ∧ ∃ n, w' = w.drewN n := by
  have h1 : Is 4607182418800017408 (1 * (U : Int)) := by
    have := is_int 1 (by decide)
    rwa [show Ieee.double.write (.number ((1 : Int) < 0) (1 : Int).natAbs 0) = 4607182418800017408 from by decide +kernel] at this
  have hU := U_pos
  obtain ⟨o1, o2, o3, o4, o5⟩ := passes h1 (by omega) (by omega)
  exact amount_calls _ 4726483295884279808 _ w o1 o2 o3 o4 o5 (by decide +kernel) (fun w => round_any _ 100000000 w is_e8 (by decide))

theorem amount_null (w : World) : Calls Try.prog 6 #[.float .f64 0] w fun e w' => e = .returned (.tuple #[.int .i64 0, .bool true]) ∧ ∃ n, w' = w.drewN n := by
  have hU := U_pos
  obtain ⟨o1, o2, o3, o4, o5⟩ := passes is_null (by omega) (by omega)
  exact amount_calls _ 0 _ w o1 o2 o3 o4 o5 (by decide +kernel) (fun w => round_any _ 0 w (by rw [Int.zero_mul]; exact is_null) (by decide))

theorem amount_law_out (n : Int) (w : World) (h : n < -1000000000000000 ∨ 1000000000000000 < n) :
    Calls Try.prog 4 #[.int .i64 n] w fun e w' => e = .returned (.bool true) ∧ w = w' := by
  by_cases h1 : n < -1000000000000000
  · go_enter Try.func4, Try.ntmps4
    go_wp2
    all_goals first | (exfalso; omega) | (go_ret; exact ⟨rfl, rfl⟩)
  · have h2 : 1000000000000000 < n := by omega
    clear h
    go_enter Try.func4, Try.ntmps4
    go_wp2
    all_goals first | (exfalso; omega) | (go_ret; exact ⟨rfl, rfl⟩)

theorem grown_drewN {W w' : World} (h : Grown W w') (n : Nat) : Grown W (w'.drewN n) := by
  induction n with
  | zero => exact h
  | succ n ih => exact Grown.drew ih

theorem amount_law_in (n : Int) (f : Nat) (w : World) (h1 : -1000000000000000 ≤ n) (h2 : n ≤ 1000000000000000) (hf : Ieee.double.div (floatOfInt .f64 n) 4726483295884279808 = some f)
    (hA : ∀ w, Calls Try.prog 6 #[.float .f64 f] w fun e w' => e = .returned (.tuple #[.int .i64 n, .bool true]) ∧ ∃ n, w' = w.drewN n) :
    Calls Try.prog 4 #[.int .i64 n] w fun e w' => e = .returned (.bool true) ∧ Grown w w' := by
  have hq : ∀ w, (binOp .quo 24 (.float .f64 (floatOfInt .f64 n)) (.float .f64 4726483295884279808)).run Try.prog w = .ok (.float .f64 f) w := fun w => run_float_arith w .quo 24 .f64 _ _ _ hf
  have A := Lib.hid hA
  have B := Lib.hid amount_one
  clear hA hf
  have l1 : decide (n < -1000000000000000) = false := by simpa using h1
  have l2 : decide (1000000000000000 < n) = false := by simpa using h2
  go_enter Try.func4, Try.ntmps4
  go_wp2_with fail
  refine (A.out _).mono ?_
  rintro e w' ⟨rfl, m, rfl⟩
  go_wp2_with fail
  refine (B.out _).mono ?_
  rintro e w' ⟨rfl, m2, rfl⟩
  go_wp2
  go_ret
  exact ⟨rfl, grown_drewN (grown_drewN (Grown.refl _) m) m2⟩

theorem amount_law (n : Int) (w : World) : Calls Try.prog 4 #[.int .i64 n] w fun e w' => e = .returned (.bool true) ∧ Grown w w' := by
  by_cases h : n < -1000000000000000 ∨ 1000000000000000 < n
  · exact (amount_law_out n w h).mono fun e w' ⟨a, b⟩ => ⟨a, b ▸ Grown.refl _⟩
  · by_cases h0 : n = 0
    · subst h0
      exact amount_law_in 0 0 w (by omega) (by omega) (by decide +kernel) amount_null
    · obtain ⟨f, vf, g, r, hf, hi, b1, b2, hg, hc⟩ := amount_there n (by omega) h0
      obtain ⟨o1, o2, o3, o4, o5⟩ := passes hi b1 b2
      refine amount_law_in n f w (by omega) (by omega) hf (fun w => amount_calls f g n w o1 o2 o3 o4 o5 hg (fun w => ?_))
      rcases hc with ⟨_, c1, c2, c3⟩ | ⟨_, c1, c2, c3⟩
      · refine round_neg g r n w ?_ c2 c3
        have e : FloatKind.f64.format.order g 0 = Ieee.double.order g 0 := rfl
        rw [e, c1]; rfl
      · exact round_pos g r n w c1 c2 c3
end Go.Proofs.Ytdejbegpdofhiaa
