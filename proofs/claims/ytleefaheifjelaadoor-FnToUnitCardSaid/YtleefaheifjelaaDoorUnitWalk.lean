import Derived.Test.YtleefaheifjelaaDoorRows
import Derived.Test.YtleefaheifjelaaDoorFl
import Derived.WalkKit
import Derived.WalkLawsBesides
import Derived.BigGuardPart
import Derived.BigQuiet
import Derived.Deep.QuietTactic
import Derived.Lib.Hide
namespace Go.Proofs.YtleefaheifjelaaDoor
open Go.RowKit FlPlain

theorem pow_p6 (w : World) (hc0 : w.cell? ⟨1, 0, none⟩ = some (.float .f64 4607182418800017408)) (hc1 : w.cell? ⟨2, 14, none⟩ = some (.float .f64 4816244402031689728)) :
    Calls Tryd.prog 11 #[.int .i64 14] w fun e w' => e = .returned (.float .f64 4816244402031689728) ∧ ∃ n, w' = w.drewN n := by
  have hm : ∀ w, (binOp .mul 22 (.float .f64 4607182418800017408) (.float .f64 4816244402031689728)).run Tryd.prog w = .ok (.float .f64 4816244402031689728) w := fun w => run_float_arith w .mul 22 .f64 _ _ _ (by decide +kernel)
  go_enter Tryd.func11, Tryd.ntmps11
  go_wp2
  go_quiet (fail)
  go_wp2
  go_ret
  exact ⟨rfl, _, rfl⟩

theorem tounit_p6 (a : Int) (r : Nat) (w : World) (h0 : -1000000000000000 ≤ a) (h1 : a ≤ 1000000000000000) (hc0 : w.cell? ⟨1, 0, none⟩ = some (.float .f64 4607182418800017408)) (hc1 : w.cell? ⟨2, 14, none⟩ = some (.float .f64 4816244402031689728))
    (hr : Ieee.double.div (floatOfInt .f64 a) 4816244402031689728 = some r) :
    Calls Tryd.prog 5 #[.int .i64 a, .int .i64 6] w fun e w' => e = .returned (.tuple #[.float .f64 r, .bool true]) ∧ ∃ n, w' = w.drewN n := by
  have P := Lib.hid (pow_p6 w hc0 hc1)
  have hq : ∀ w, (binOp .quo 22 (.float .f64 (floatOfInt .f64 a)) (.float .f64 4816244402031689728)).run Tryd.prog w = .ok (.float .f64 r) w := fun w => run_float_arith w .quo 22 .f64 _ _ _ hr
  have l1 : -1000000000000000000 ≤ a := by omega
  have l2 : a ≤ 1000000000000000000 := by omega
  clear hr hc0 hc1
  go_enter Tryd.func5, Tryd.ntmps5
  go_wp2_with (first | (go_at_call 11; refine P.out.mono ?_; rintro e w' ⟨rfl, n, rfl⟩) | go_in)
  go_ret2
  exact ⟨rfl, _, rfl⟩

theorem law_p6 (a : Int) (w : World) (h0 : -1000000000000000 ≤ a) (h1 : a ≤ 1000000000000000) (hc0 : w.cell? ⟨1, 0, none⟩ = some (.float .f64 4607182418800017408)) (hc1 : w.cell? ⟨2, 14, none⟩ = some (.float .f64 4816244402031689728)) :
    Calls Tryd.prog 3 #[.int .i64 a, .int .i64 6] w fun e w' => e = .returned (.bool true) ∧ ∃ n, w' = w.drewN n := by
  have hx : Is (floatOfInt .f64 a) (a * (U : Int)) := is_int a (by omega)
  obtain ⟨r, hr, ho⟩ := div_there (y := 4816244402031689728) (t := false) (n := 6400000000000000) (q := -6) hx (by decide) (by decide)
  have P := Lib.hid (tounit_p6 a r w h0 h1 hc0 hc1 hr)
  have hq : ∀ w, (binOp .quo 22 (.float .f64 (floatOfInt .f64 a)) (.float .f64 4816244402031689728)).run Tryd.prog w = .ok (.float .f64 r) w := fun w => run_float_arith w .quo 22 .f64 _ _ _ hr
  have ho2 : (FloatKind.f64.format.order r r == some Ordering.eq) = true := by rw [show FloatKind.f64.format.order r r = _ from ho]; rfl
  clear hr hc0 hc1 hx ho
  go_enter Tryd.func3, Tryd.ntmps3
  go_wp2_with (first | (go_at_call 5; refine P.out.mono ?_; rintro e w' ⟨rfl, n, rfl⟩) | fail)
  all_goals first | (exfalso; omega) | (go_ret; exact ⟨rfl, _, rfl⟩)

theorem pow_p3 (w : World) (hc0 : w.cell? ⟨1, 0, none⟩ = some (.float .f64 4607182418800017408)) (hc1 : w.cell? ⟨2, 11, none⟩ = some (.float .f64 4771362005757984768)) :
    Calls Tryd.prog 11 #[.int .i64 11] w fun e w' => e = .returned (.float .f64 4771362005757984768) ∧ ∃ n, w' = w.drewN n := by
  have hm : ∀ w, (binOp .mul 22 (.float .f64 4607182418800017408) (.float .f64 4771362005757984768)).run Tryd.prog w = .ok (.float .f64 4771362005757984768) w := fun w => run_float_arith w .mul 22 .f64 _ _ _ (by decide +kernel)
  go_enter Tryd.func11, Tryd.ntmps11
  go_wp2
  go_quiet (fail)
  go_wp2
  go_ret
  exact ⟨rfl, _, rfl⟩

theorem tounit_p3 (a : Int) (r : Nat) (w : World) (h0 : -1000000000000000 ≤ a) (h1 : a ≤ 1000000000000000) (hc0 : w.cell? ⟨1, 0, none⟩ = some (.float .f64 4607182418800017408)) (hc1 : w.cell? ⟨2, 11, none⟩ = some (.float .f64 4771362005757984768))
    (hr : Ieee.double.div (floatOfInt .f64 a) 4771362005757984768 = some r) :
    Calls Tryd.prog 5 #[.int .i64 a, .int .i64 3] w fun e w' => e = .returned (.tuple #[.float .f64 r, .bool true]) ∧ ∃ n, w' = w.drewN n := by
  have P := Lib.hid (pow_p3 w hc0 hc1)
  have hq : ∀ w, (binOp .quo 22 (.float .f64 (floatOfInt .f64 a)) (.float .f64 4771362005757984768)).run Tryd.prog w = .ok (.float .f64 r) w := fun w => run_float_arith w .quo 22 .f64 _ _ _ hr
  have l1 : -1000000000000000000 ≤ a := by omega
  have l2 : a ≤ 1000000000000000000 := by omega
  clear hr hc0 hc1
  go_enter Tryd.func5, Tryd.ntmps5
  go_wp2_with (first | (go_at_call 11; refine P.out.mono ?_; rintro e w' ⟨rfl, n, rfl⟩) | go_in)
  go_ret2
  exact ⟨rfl, _, rfl⟩

theorem law_p3 (a : Int) (w : World) (h0 : -1000000000000000 ≤ a) (h1 : a ≤ 1000000000000000) (hc0 : w.cell? ⟨1, 0, none⟩ = some (.float .f64 4607182418800017408)) (hc1 : w.cell? ⟨2, 11, none⟩ = some (.float .f64 4771362005757984768)) :
    Calls Tryd.prog 3 #[.int .i64 a, .int .i64 3] w fun e w' => e = .returned (.bool true) ∧ ∃ n, w' = w.drewN n := by
  have hx : Is (floatOfInt .f64 a) (a * (U : Int)) := is_int a (by omega)
  obtain ⟨r, hr, ho⟩ := div_there (y := 4771362005757984768) (t := false) (n := 6553600000000000) (q := -16) hx (by decide) (by decide)
  have P := Lib.hid (tounit_p3 a r w h0 h1 hc0 hc1 hr)
  have hq : ∀ w, (binOp .quo 22 (.float .f64 (floatOfInt .f64 a)) (.float .f64 4771362005757984768)).run Tryd.prog w = .ok (.float .f64 r) w := fun w => run_float_arith w .quo 22 .f64 _ _ _ hr
  have ho2 : (FloatKind.f64.format.order r r == some Ordering.eq) = true := by rw [show FloatKind.f64.format.order r r = _ from ho]; rfl
  clear hr hc0 hc1 hx ho
  go_enter Tryd.func3, Tryd.ntmps3
  go_wp2_with (first | (go_at_call 5; refine P.out.mono ?_; rintro e w' ⟨rfl, n, rfl⟩) | fail)
  all_goals first | (exfalso; omega) | (go_ret; exact ⟨rfl, _, rfl⟩)

theorem pow_p0 (w : World) (hc0 : w.cell? ⟨1, 0, none⟩ = some (.float .f64 4607182418800017408)) (hc1 : w.cell? ⟨2, 8, none⟩ = some (.float .f64 4726483295884279808)) :
    Calls Tryd.prog 11 #[.int .i64 8] w fun e w' => e = .returned (.float .f64 4726483295884279808) ∧ ∃ n, w' = w.drewN n := by
  have hm : ∀ w, (binOp .mul 22 (.float .f64 4607182418800017408) (.float .f64 4726483295884279808)).run Tryd.prog w = .ok (.float .f64 4726483295884279808) w := fun w => run_float_arith w .mul 22 .f64 _ _ _ (by decide +kernel)
  go_enter Tryd.func11, Tryd.ntmps11
  go_wp2
  go_quiet (fail)
  go_wp2
  go_ret
  exact ⟨rfl, _, rfl⟩

theorem tounit_p0 (a : Int) (r : Nat) (w : World) (h0 : -1000000000000000 ≤ a) (h1 : a ≤ 1000000000000000) (hc0 : w.cell? ⟨1, 0, none⟩ = some (.float .f64 4607182418800017408)) (hc1 : w.cell? ⟨2, 8, none⟩ = some (.float .f64 4726483295884279808))
    (hr : Ieee.double.div (floatOfInt .f64 a) 4726483295884279808 = some r) :
    Calls Tryd.prog 5 #[.int .i64 a, .int .i64 0] w fun e w' => e = .returned (.tuple #[.float .f64 r, .bool true]) ∧ ∃ n, w' = w.drewN n := by
  have P := Lib.hid (pow_p0 w hc0 hc1)
  have hq : ∀ w, (binOp .quo 22 (.float .f64 (floatOfInt .f64 a)) (.float .f64 4726483295884279808)).run Tryd.prog w = .ok (.float .f64 r) w := fun w => run_float_arith w .quo 22 .f64 _ _ _ hr
  have l1 : -1000000000000000000 ≤ a := by omega
  have l2 : a ≤ 1000000000000000000 := by omega
  clear hr hc0 hc1
  go_enter Tryd.func5, Tryd.ntmps5
  go_wp2_with (first | (go_at_call 11; refine P.out.mono ?_; rintro e w' ⟨rfl, n, rfl⟩) | go_in)
  go_ret2
  exact ⟨rfl, _, rfl⟩

theorem law_p0 (a : Int) (w : World) (h0 : -1000000000000000 ≤ a) (h1 : a ≤ 1000000000000000) (hc0 : w.cell? ⟨1, 0, none⟩ = some (.float .f64 4607182418800017408)) (hc1 : w.cell? ⟨2, 8, none⟩ = some (.float .f64 4726483295884279808)) :
    Calls Tryd.prog 3 #[.int .i64 a, .int .i64 0] w fun e w' => e = .returned (.bool true) ∧ ∃ n, w' = w.drewN n := by
  have hx : Is (floatOfInt .f64 a) (a * (U : Int)) := is_int a (by omega)
  obtain ⟨r, hr, ho⟩ := div_there (y := 4726483295884279808) (t := false) (n := 6710886400000000) (q := -26) hx (by decide) (by decide)
  have P := Lib.hid (tounit_p0 a r w h0 h1 hc0 hc1 hr)
  have hq : ∀ w, (binOp .quo 22 (.float .f64 (floatOfInt .f64 a)) (.float .f64 4726483295884279808)).run Tryd.prog w = .ok (.float .f64 r) w := fun w => run_float_arith w .quo 22 .f64 _ _ _ hr
  have ho2 : (FloatKind.f64.format.order r r == some Ordering.eq) = true := by rw [show FloatKind.f64.format.order r r = _ from ho]; rfl
  clear hr hc0 hc1 hx ho
  go_enter Tryd.func3, Tryd.ntmps3
  go_wp2_with (first | (go_at_call 5; refine P.out.mono ?_; rintro e w' ⟨rfl, n, rfl⟩) | fail)
  all_goals first | (exfalso; omega) | (go_ret; exact ⟨rfl, _, rfl⟩)

theorem pow_m3 (w : World) (hc0 : w.cell? ⟨1, 0, none⟩ = some (.float .f64 4607182418800017408)) (hc1 : w.cell? ⟨2, 5, none⟩ = some (.float .f64 4681608360884174848)) :
    Calls Tryd.prog 11 #[.int .i64 5] w fun e w' => e = .returned (.float .f64 4681608360884174848) ∧ ∃ n, w' = w.drewN n := by
  have hm : ∀ w, (binOp .mul 22 (.float .f64 4607182418800017408) (.float .f64 4681608360884174848)).run Tryd.prog w = .ok (.float .f64 4681608360884174848) w := fun w => run_float_arith w .mul 22 .f64 _ _ _ (by decide +kernel)
  go_enter Tryd.func11, Tryd.ntmps11
  go_wp2
  go_quiet (fail)
  go_wp2
  go_ret
  exact ⟨rfl, _, rfl⟩

theorem tounit_m3 (a : Int) (r : Nat) (w : World) (h0 : -1000000000000000 ≤ a) (h1 : a ≤ 1000000000000000) (hc0 : w.cell? ⟨1, 0, none⟩ = some (.float .f64 4607182418800017408)) (hc1 : w.cell? ⟨2, 5, none⟩ = some (.float .f64 4681608360884174848))
    (hr : Ieee.double.div (floatOfInt .f64 a) 4681608360884174848 = some r) :
    Calls Tryd.prog 5 #[.int .i64 a, .int .i64 (-3)] w fun e w' => e = .returned (.tuple #[.float .f64 r, .bool true]) ∧ ∃ n, w' = w.drewN n := by
  have P := Lib.hid (pow_m3 w hc0 hc1)
  have hq : ∀ w, (binOp .quo 22 (.float .f64 (floatOfInt .f64 a)) (.float .f64 4681608360884174848)).run Tryd.prog w = .ok (.float .f64 r) w := fun w => run_float_arith w .quo 22 .f64 _ _ _ hr
  have l1 : -1000000000000000000 ≤ a := by omega
  have l2 : a ≤ 1000000000000000000 := by omega
  clear hr hc0 hc1
  go_enter Tryd.func5, Tryd.ntmps5
  go_wp2_with (first | (go_at_call 11; refine P.out.mono ?_; rintro e w' ⟨rfl, n, rfl⟩) | go_in)
  go_ret2
  exact ⟨rfl, _, rfl⟩

theorem law_m3 (a : Int) (w : World) (h0 : -1000000000000000 ≤ a) (h1 : a ≤ 1000000000000000) (hc0 : w.cell? ⟨1, 0, none⟩ = some (.float .f64 4607182418800017408)) (hc1 : w.cell? ⟨2, 5, none⟩ = some (.float .f64 4681608360884174848)) :
    Calls Tryd.prog 3 #[.int .i64 a, .int .i64 (-3)] w fun e w' => e = .returned (.bool true) ∧ ∃ n, w' = w.drewN n := by
  have hx : Is (floatOfInt .f64 a) (a * (U : Int)) := is_int a (by omega)
  obtain ⟨r, hr, ho⟩ := div_there (y := 4681608360884174848) (t := false) (n := 6871947673600000) (q := -36) hx (by decide) (by decide)
  have P := Lib.hid (tounit_m3 a r w h0 h1 hc0 hc1 hr)
  have hq : ∀ w, (binOp .quo 22 (.float .f64 (floatOfInt .f64 a)) (.float .f64 4681608360884174848)).run Tryd.prog w = .ok (.float .f64 r) w := fun w => run_float_arith w .quo 22 .f64 _ _ _ hr
  have ho2 : (FloatKind.f64.format.order r r == some Ordering.eq) = true := by rw [show FloatKind.f64.format.order r r = _ from ho]; rfl
  clear hr hc0 hc1 hx ho
  go_enter Tryd.func3, Tryd.ntmps3
  go_wp2_with (first | (go_at_call 5; refine P.out.mono ?_; rintro e w' ⟨rfl, n, rfl⟩) | fail)
  all_goals first | (exfalso; omega) | (go_ret; exact ⟨rfl, _, rfl⟩)

theorem pow_m6 (w : World) (hc0 : w.cell? ⟨1, 0, none⟩ = some (.float .f64 4607182418800017408)) (hc1 : w.cell? ⟨2, 2, none⟩ = some (.float .f64 4636737291354636288)) :
    Calls Tryd.prog 11 #[.int .i64 2] w fun e w' => e = .returned (.float .f64 4636737291354636288) ∧ ∃ n, w' = w.drewN n := by
  have hm : ∀ w, (binOp .mul 22 (.float .f64 4607182418800017408) (.float .f64 4636737291354636288)).run Tryd.prog w = .ok (.float .f64 4636737291354636288) w := fun w => run_float_arith w .mul 22 .f64 _ _ _ (by decide +kernel)
  go_enter Tryd.func11, Tryd.ntmps11
  go_wp2
  go_quiet (fail)
  go_wp2
  go_ret
  exact ⟨rfl, _, rfl⟩

theorem tounit_m6 (a : Int) (r : Nat) (w : World) (h0 : -1000000000000000 ≤ a) (h1 : a ≤ 1000000000000000) (hc0 : w.cell? ⟨1, 0, none⟩ = some (.float .f64 4607182418800017408)) (hc1 : w.cell? ⟨2, 2, none⟩ = some (.float .f64 4636737291354636288))
    (hr : Ieee.double.div (floatOfInt .f64 a) 4636737291354636288 = some r) :
    Calls Tryd.prog 5 #[.int .i64 a, .int .i64 (-6)] w fun e w' => e = .returned (.tuple #[.float .f64 r, .bool true]) ∧ ∃ n, w' = w.drewN n := by
  have P := Lib.hid (pow_m6 w hc0 hc1)
  have hq : ∀ w, (binOp .quo 22 (.float .f64 (floatOfInt .f64 a)) (.float .f64 4636737291354636288)).run Tryd.prog w = .ok (.float .f64 r) w := fun w => run_float_arith w .quo 22 .f64 _ _ _ hr
  have l1 : -1000000000000000000 ≤ a := by omega
  have l2 : a ≤ 1000000000000000000 := by omega
  clear hr hc0 hc1
  go_enter Tryd.func5, Tryd.ntmps5
  go_wp2_with (first | (go_at_call 11; refine P.out.mono ?_; rintro e w' ⟨rfl, n, rfl⟩) | go_in)
  go_ret2
  exact ⟨rfl, _, rfl⟩

theorem law_m6 (a : Int) (w : World) (h0 : -1000000000000000 ≤ a) (h1 : a ≤ 1000000000000000) (hc0 : w.cell? ⟨1, 0, none⟩ = some (.float .f64 4607182418800017408)) (hc1 : w.cell? ⟨2, 2, none⟩ = some (.float .f64 4636737291354636288)) :
    Calls Tryd.prog 3 #[.int .i64 a, .int .i64 (-6)] w fun e w' => e = .returned (.bool true) ∧ ∃ n, w' = w.drewN n := by
  have hx : Is (floatOfInt .f64 a) (a * (U : Int)) := is_int a (by omega)
  obtain ⟨r, hr, ho⟩ := div_there (y := 4636737291354636288) (t := false) (n := 7036874417766400) (q := -46) hx (by decide) (by decide)
  have P := Lib.hid (tounit_m6 a r w h0 h1 hc0 hc1 hr)
  have hq : ∀ w, (binOp .quo 22 (.float .f64 (floatOfInt .f64 a)) (.float .f64 4636737291354636288)).run Tryd.prog w = .ok (.float .f64 r) w := fun w => run_float_arith w .quo 22 .f64 _ _ _ hr
  have ho2 : (FloatKind.f64.format.order r r == some Ordering.eq) = true := by rw [show FloatKind.f64.format.order r r = _ from ho]; rfl
  clear hr hc0 hc1 hx ho
  go_enter Tryd.func3, Tryd.ntmps3
  go_wp2_with (first | (go_at_call 5; refine P.out.mono ?_; rintro e w' ⟨rfl, n, rfl⟩) | fail)
  all_goals first | (exfalso; omega) | (go_ret; exact ⟨rfl, _, rfl⟩)

theorem pow_m8 (w : World) (hc0 : w.cell? ⟨1, 0, none⟩ = some (.float .f64 4607182418800017408)) (hc1 : w.cell? ⟨2, 0, none⟩ = some (.float .f64 4607182418800017408)) :
    Calls Tryd.prog 11 #[.int .i64 0] w fun e w' => e = .returned (.float .f64 4607182418800017408) ∧ ∃ n, w' = w.drewN n := by
  have hm : ∀ w, (binOp .mul 22 (.float .f64 4607182418800017408) (.float .f64 4607182418800017408)).run Tryd.prog w = .ok (.float .f64 4607182418800017408) w := fun w => run_float_arith w .mul 22 .f64 _ _ _ (by decide +kernel)
  go_enter Tryd.func11, Tryd.ntmps11
  go_wp2
  go_quiet (fail)
  go_wp2
  go_ret
  exact ⟨rfl, _, rfl⟩

theorem tounit_m8 (a : Int) (r : Nat) (w : World) (h0 : -1000000000000000 ≤ a) (h1 : a ≤ 1000000000000000) (hc0 : w.cell? ⟨1, 0, none⟩ = some (.float .f64 4607182418800017408)) (hc1 : w.cell? ⟨2, 0, none⟩ = some (.float .f64 4607182418800017408))
    (hr : Ieee.double.div (floatOfInt .f64 a) 4607182418800017408 = some r) :
    Calls Tryd.prog 5 #[.int .i64 a, .int .i64 (-8)] w fun e w' => e = .returned (.tuple #[.float .f64 r, .bool true]) ∧ ∃ n, w' = w.drewN n := by
  have P := Lib.hid (pow_m8 w hc0 hc1)
  have hq : ∀ w, (binOp .quo 22 (.float .f64 (floatOfInt .f64 a)) (.float .f64 4607182418800017408)).run Tryd.prog w = .ok (.float .f64 r) w := fun w => run_float_arith w .quo 22 .f64 _ _ _ hr
  have l1 : -1000000000000000000 ≤ a := by omega
  have l2 : a ≤ 1000000000000000000 := by omega
  clear hr hc0 hc1
  go_enter Tryd.func5, Tryd.ntmps5
  go_wp2_with (first | (go_at_call 11; refine P.out.mono ?_; rintro e w' ⟨rfl, n, rfl⟩) | go_in)
  go_ret2
  exact ⟨rfl, _, rfl⟩

theorem law_m8 (a : Int) (w : World) (h0 : -1000000000000000 ≤ a) (h1 : a ≤ 1000000000000000) (hc0 : w.cell? ⟨1, 0, none⟩ = some (.float .f64 4607182418800017408)) (hc1 : w.cell? ⟨2, 0, none⟩ = some (.float .f64 4607182418800017408)) :
    Calls Tryd.prog 3 #[.int .i64 a, .int .i64 (-8)] w fun e w' => e = .returned (.bool true) ∧ ∃ n, w' = w.drewN n := by
  have hx : Is (floatOfInt .f64 a) (a * (U : Int)) := is_int a (by omega)
  obtain ⟨r, hr, ho⟩ := div_there (y := 4607182418800017408) (t := false) (n := 4503599627370496) (q := -52) hx (by decide) (by decide)
  have P := Lib.hid (tounit_m8 a r w h0 h1 hc0 hc1 hr)
  have hq : ∀ w, (binOp .quo 22 (.float .f64 (floatOfInt .f64 a)) (.float .f64 4607182418800017408)).run Tryd.prog w = .ok (.float .f64 r) w := fun w => run_float_arith w .quo 22 .f64 _ _ _ hr
  have ho2 : (FloatKind.f64.format.order r r == some Ordering.eq) = true := by rw [show FloatKind.f64.format.order r r = _ from ho]; rfl
  clear hr hc0 hc1 hx ho
  go_enter Tryd.func3, Tryd.ntmps3
  go_wp2_with (first | (go_at_call 5; refine P.out.mono ?_; rintro e w' ⟨rfl, n, rfl⟩) | fail)
  all_goals first | (exfalso; omega) | (go_ret; exact ⟨rfl, _, rfl⟩)

theorem law_out (a u : Int) (w : World) (h : a < -1000000000000000 ∨ 1000000000000000 < a) :
    Calls Tryd.prog 3 #[.int .i64 a, .int .i64 u] w fun e w' => e = .returned (.bool true) ∧ ∃ n, w' = w.drewN n := by
  by_cases h1 : a < -1000000000000000
  · go_enter Tryd.func3, Tryd.ntmps3
    go_wp2
    all_goals first | (exfalso; omega) | (go_ret; exact ⟨rfl, 0, rfl⟩)
  · have h2 : 1000000000000000 < a := by omega
    clear h
    go_enter Tryd.func3, Tryd.ntmps3
    go_wp2
    all_goals first | (exfalso; omega) | (go_ret; exact ⟨rfl, 0, rfl⟩)

theorem law_unit (a u : Int) (w : World) (h0 : -1000000000000000 ≤ a) (h1 : a ≤ 1000000000000000) (h6 : (u == 6) = false) (h3 : (u == 3) = false) (hz : (u == 0) = false) (hm3 : (u == -3) = false) (hm6 : (u == -6) = false) (hm8 : (u == -8) = false) :
    Calls Tryd.prog 3 #[.int .i64 a, .int .i64 u] w fun e w' => e = .returned (.bool true) ∧ ∃ n, w' = w.drewN n := by
  go_enter Tryd.func3, Tryd.ntmps3
  go_wp2
  all_goals first | (exfalso; omega) | (go_ret; exact ⟨rfl, 0, rfl⟩)

end Go.Proofs.YtleefaheifjelaaDoor
