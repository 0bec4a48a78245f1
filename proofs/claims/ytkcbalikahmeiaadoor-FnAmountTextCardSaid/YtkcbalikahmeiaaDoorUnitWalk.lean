/-
  The law's functions at each unit.
-/
import Derived.Test.YtkcbalikahmeiaaDoorNumWalk
import Derived.Test.YtkcbalikahmeiaaDoorDecLaw
import Derived.WalkKit
import Derived.WalkLawsBesides
import Derived.BigGuardPart
import Derived.BigQuiet
import Derived.Deep.QuietTactic
import Derived.Lib.Hide
namespace Go.Proofs.YtkcbalikahmeiaaDoor.Aft
open Go.RowKit FlPlain Go.Proofs.YtkcbalikahmeiaaDoorW.PrintWords Go.Proofs.YtkcbalikahmeiaaDoorW.PrintLast Go.Proofs.YtkcbalikahmeiaaDoorW.PrintMore

theorem txt_length (N P : Nat) (hN : N ≤ 1000000000000000) : (txt N P).length ≤ 17 + P := by
  have h16 := nDigits_le' 15 (N / 10 ^ P) (by
    have := Nat.div_le_self N (10 ^ P)
    rw [show 10 ^ (15 + 1) = 10000000000000000 from rfl]
    omega)
  have hf := fr_len N P
  unfold txt
  rw [List.length_append, dig_length]
  split
  · simp; omega
  · rw [List.length_cons]; omega
theorem fOut_size (n : Int) (P : Nat) (hn : n.natAbs ≤ 1000000000000000) (hP : P ≤ 20) : (fOut n P).size ≤ 40 := by
  have := txt_length n.natAbs P hn
  unfold fOut
  rw [strOfNums_size, List.length_append]
  unfold sgnL
  split <;> simp <;> omega
theorem drewN_below {w w' : World} (h : ∃ n, w' = w.drewN n) : Below w.heap.size w w' := by
  obtain ⟨n, rfl⟩ := h
  exact bel_drew w n
theorem within_calls (a : Int) (w : World) (h0 : -1000000000000000 ≤ a) (h1 : a ≤ 1000000000000000) : Calls Tryd.prog 7 #[.int .i64 a] w fun e w' => e = .returned (.bool true) ∧ w' = w := by
  have l1 : -1000000000000000000 ≤ a := by omega
  have l2 : a ≤ 1000000000000000000 := by omega
  clear h0 h1
  go_enter Tryd.func7, Tryd.ntmps7
  go_wp2
  all_goals first | (exfalso; omega) | (go_ret; exact ⟨rfl, rfl⟩)

theorem pow_m8 (w : World) (hc0 : w.cell? ⟨1, 0, none⟩ = some (.float .f64 4607182418800017408)) (hc1 : w.cell? ⟨2, 0, none⟩ = some (.float .f64 4607182418800017408)) :
    Calls Tryd.prog 14 #[.int .i64 0] w fun e w' => e = .returned (.float .f64 4607182418800017408) ∧ ∃ n, w' = w.drewN n := by
  have hm : ∀ w, (binOp .mul 34 (.float .f64 4607182418800017408) (.float .f64 4607182418800017408)).run Tryd.prog w = .ok (.float .f64 4607182418800017408) w := fun w => run_float_arith w .mul 34 .f64 _ _ _ (by decide +kernel)
  go_enter Tryd.func14, Tryd.ntmps14
  go_wp2
  go_quiet (fail)
  go_wp2
  go_ret
  exact ⟨rfl, _, rfl⟩
theorem tounit_m8 (a : Int) (r : Nat) (w : World) (hc0 : w.cell? ⟨1, 0, none⟩ = some (.float .f64 4607182418800017408)) (hc1 : w.cell? ⟨2, 0, none⟩ = some (.float .f64 4607182418800017408))
    (hr : Ieee.double.div (floatOfInt .f64 a) 4607182418800017408 = some r) :
    Calls Tryd.prog 11 #[.int .i64 a, .int .i64 (-8)] w fun e w' => e = .returned (.float .f64 r) ∧ ∃ n, w' = w.drewN n := by
  have P := Lib.hid (pow_m8 w hc0 hc1)
  have hq : ∀ w, (binOp .quo 34 (.float .f64 (floatOfInt .f64 a)) (.float .f64 4607182418800017408)).run Tryd.prog w = .ok (.float .f64 r) w := fun w => run_float_arith w .quo 34 .f64 _ _ _ hr
  clear hr hc0 hc1
  go_enter Tryd.func11, Tryd.ntmps11
  go_wp2_with (first | (go_at_call 14; refine P.out.mono ?_; rintro e w' ⟨rfl, n, rfl⟩) | fail)
  go_ret
  exact ⟨rfl, _, rfl⟩
theorem num_m8 (a : Int) (ha : a.natAbs ≤ 1000000000000000) : ∃ f : Nat, Ieee.double.div (floatOfInt .f64 a) 4607182418800017408 = some f ∧ ∀ w, Env w → Calls Tryd.prog 10 #[.float .f64 f, .int .u8 102, .int .i64 0, .int .i64 64] w fun e w' => e = .returned (.string (fOut a 0)) ∧ Below w.heap.size w w' := by
  by_cases h : a = 0
  · subst h
    exact ⟨0, by decide +kernel, fun w _ => ff_zero 0 0 (by decide) (by decide) w⟩
  · have e : floatOfInt .f64 a = Ieee.double.write (.number (decide (a < 0)) a.natAbs 0) := rfl
    rw [e]
    exact ff_base a 4607182418800017408 h ha (by decide)
theorem name_m8 (w : World) : Calls Tryd.prog 9 #[.int .i64 (-8)] w fun e w' => e = .returned (.string ⟨#[83, 97, 116, 111, 115, 104, 105]⟩) ∧ w' = w := by
  go_enter Tryd.func9, Tryd.ntmps9
  go_wp2
  go_ret
  exact ⟨rfl, rfl⟩
theorem unit_m8 (w : World) : Calls Tryd.prog 6 #[.int .i64 (-8)] w fun e w' => e = .returned (.string ⟨#[83, 97, 116, 111, 115, 104, 105]⟩) ∧ w' = w := by
  go_enter Tryd.func6, Tryd.ntmps6
  go_wp2_with (first | (go_at_call 9; refine (name_m8 _).mono ?_; rintro e w2 ⟨rfl, h2⟩; obtain rfl := h2.symm) | fail)
  go_ret
  exact ⟨rfl, rfl⟩
theorem format_m8 (a : Int) (ha : a.natAbs ≤ 1000000000000000) (w : World) (hE : Env w) (hc0 : w.cell? ⟨1, 0, none⟩ = some (.float .f64 4607182418800017408)) (hc1 : w.cell? ⟨2, 0, none⟩ = some (.float .f64 4607182418800017408)) :
    Calls Tryd.prog 8 #[.int .i64 a, .int .i64 (-8)] w fun e w' => e = .returned (.string (fOut a 0 ++ ((⟨#[32]⟩ : ByteArray) ++ (⟨#[83, 97, 116, 111, 115, 104, 105]⟩ : ByteArray)))) ∧ Below w.heap.size w w' := by
  obtain ⟨r, hr, hF⟩ := num_m8 a ha
  have P := Lib.hid (tounit_m8 a r w hc0 hc1 hr)
  have HF := Lib.hid hF
  have HE := Lib.hid hE
  have hsz := fOut_size a 0 ha (by decide)
  obtain ⟨s, hs⟩ : ∃ s, s = fOut a 0 := ⟨_, rfl⟩
  rw [← hs] at HF hsz ⊢
  clear hF hr hc0 hc1 ha hs hE
  go_enter Tryd.func8, Tryd.ntmps8
  go_wp2_with (first
    | (go_at_call 9; refine (name_m8 _).mono ?_; rintro e w2 ⟨rfl, h2⟩; obtain rfl := h2.symm)
    | (go_at_call 11; refine P.out.mono ?_; rintro e w1 ⟨rfl, h1⟩; have HB1 := Aside0.mk (drewN_below h1); clear h1)
    | (go_at_call 10; refine (HF.out _ (HE.out.below HB1.out)).mono ?_; rintro e w2 ⟨rfl, h2⟩; have HB2 := Aside0.mk (HB1.out.trans (h2.mono HB1.out.size)); clear h2)
    | fail)
  go_ret
  exact ⟨rfl, HB2.out⟩
theorem amount_m8 (a : Int) (h0 : -1000000000000000 ≤ a) (h1 : a ≤ 1000000000000000) (w : World) (hE : Env w) (hc0 : w.cell? ⟨1, 0, none⟩ = some (.float .f64 4607182418800017408)) (hc1 : w.cell? ⟨2, 0, none⟩ = some (.float .f64 4607182418800017408)) :
    Calls Tryd.prog 4 #[.int .i64 a, .int .i64 (-8)] w fun e w' => e = .returned (.tuple #[.string (fOut a 0 ++ ((⟨#[32]⟩ : ByteArray) ++ (⟨#[83, 97, 116, 111, 115, 104, 105]⟩ : ByteArray))), .bool true]) ∧ Below w.heap.size w w' := by
  have HF := Lib.hid (format_m8 a (by omega) w hE hc0 hc1)
  have HW := Lib.hid (within_calls a w h0 h1)
  clear hE hc0 hc1 h0 h1
  go_enter Tryd.func4, Tryd.ntmps4
  go_wp2_with (first
    | (go_at_call 7; refine HW.out.mono ?_; rintro e w2 ⟨rfl, h2⟩; obtain rfl := h2.symm)
    | (go_at_call 8; refine HF.out.mono ?_; rintro e w2 ⟨rfl, h2⟩; have HB2 := Aside0.mk h2; clear h2)
    | fail)
  go_ret2
  exact ⟨rfl, HB2.out⟩
theorem law_m8 (a : Int) (h0 : -1000000000000000 ≤ a) (h1 : a ≤ 1000000000000000) (w : World) (hE : Env w) (hc0 : w.cell? ⟨1, 0, none⟩ = some (.float .f64 4607182418800017408)) (hc1 : w.cell? ⟨2, 0, none⟩ = some (.float .f64 4607182418800017408)) :
    Calls Tryd.prog 3 #[.int .i64 a, .int .i64 (-8)] w fun e w' => e = .returned (.bool true) ∧ Below w.heap.size w w' := by
  have HA := Lib.hid (amount_m8 a h0 h1 w hE hc0 hc1)
  have HD := Lib.hid (fun w1 => dec_calls a 0 (by omega) (by decide) w1)
  have hsz := fOut_size a 0 (by omega) (by decide)
  have happ : ∀ s : ByteArray, s ++ ((⟨#[32]⟩ : ByteArray) ++ (⟨#[83, 97, 116, 111, 115, 104, 105]⟩ : ByteArray)) = s ++ (⟨#[32]⟩ : ByteArray) ++ (⟨#[83, 97, 116, 111, 115, 104, 105]⟩ : ByteArray) := fun s => (ByteArray.append_assoc).symm
  have HP := Lib.hid happ
  obtain ⟨s, hs⟩ : ∃ s, s = fOut a 0 := ⟨_, rfl⟩
  have hs2 : s = strOfNums ((if decide (a < 0) then [45] else []) ++ txt a.natAbs 0) := hs
  rw [← hs] at HA hsz
  rw [← hs2] at HD
  rw [happ] at HA
  clear hs hs2 hE hc0 hc1 happ
  go_enter Tryd.func3, Tryd.ntmps3
  go_wp2_with (first
    | (go_at_call 4; refine HA.out.mono ?_; rintro e w1 ⟨rfl, h2⟩; have HB1 := Aside0.mk h2; clear h2)
    | (go_at_call 5; refine (HD.out _).mono ?_; rintro e w2 ⟨rfl, h2⟩; have HB2 := Aside0.mk (HB1.out.trans (h2.mono HB1.out.size)); clear h2)
    | (go_at_call 6; refine (unit_m8 _).mono ?_; rintro e w3 ⟨rfl, h2⟩; obtain rfl := h2.symm)
    | (go_at_call 6; refine (unit_m8 _).mono ?_; rintro e w3 ⟨rfl, h2⟩; obtain rfl := h2.symm)
    | fail)
  all_goals first | (exfalso; omega) | (go_ret; exact ⟨rfl, HB2.out⟩)

theorem pow_p6 (w : World) (hc0 : w.cell? ⟨1, 0, none⟩ = some (.float .f64 4607182418800017408)) (hc1 : w.cell? ⟨2, 14, none⟩ = some (.float .f64 4816244402031689728)) :
    Calls Tryd.prog 14 #[.int .i64 14] w fun e w' => e = .returned (.float .f64 4816244402031689728) ∧ ∃ n, w' = w.drewN n := by
  have hm : ∀ w, (binOp .mul 34 (.float .f64 4607182418800017408) (.float .f64 4816244402031689728)).run Tryd.prog w = .ok (.float .f64 4816244402031689728) w := fun w => run_float_arith w .mul 34 .f64 _ _ _ (by decide +kernel)
  go_enter Tryd.func14, Tryd.ntmps14
  go_wp2
  go_quiet (fail)
  go_wp2
  go_ret
  exact ⟨rfl, _, rfl⟩
theorem tounit_p6 (a : Int) (r : Nat) (w : World) (hc0 : w.cell? ⟨1, 0, none⟩ = some (.float .f64 4607182418800017408)) (hc1 : w.cell? ⟨2, 14, none⟩ = some (.float .f64 4816244402031689728))
    (hr : Ieee.double.div (floatOfInt .f64 a) 4816244402031689728 = some r) :
    Calls Tryd.prog 11 #[.int .i64 a, .int .i64 6] w fun e w' => e = .returned (.float .f64 r) ∧ ∃ n, w' = w.drewN n := by
  have P := Lib.hid (pow_p6 w hc0 hc1)
  have hq : ∀ w, (binOp .quo 34 (.float .f64 (floatOfInt .f64 a)) (.float .f64 4816244402031689728)).run Tryd.prog w = .ok (.float .f64 r) w := fun w => run_float_arith w .quo 34 .f64 _ _ _ hr
  clear hr hc0 hc1
  go_enter Tryd.func11, Tryd.ntmps11
  go_wp2_with (first | (go_at_call 14; refine P.out.mono ?_; rintro e w' ⟨rfl, n, rfl⟩) | fail)
  go_ret
  exact ⟨rfl, _, rfl⟩
theorem num_p6 (a : Int) (ha : a.natAbs ≤ 1000000000000000) : ∃ f : Nat, Ieee.double.div (floatOfInt .f64 a) 4816244402031689728 = some f ∧ ∀ w, Env w → Calls Tryd.prog 10 #[.float .f64 f, .int .u8 102, .int .i64 (-14), .int .i64 64] w fun e w' => e = .returned (.string (fOut a 14)) ∧ Below w.heap.size w w' := by
  by_cases h : a = 0
  · subst h
    exact ⟨0, by decide +kernel, fun w _ => ff_zero 14 (-14) (by decide) (by decide) w⟩
  · have e : floatOfInt .f64 a = Ieee.double.write (.number (decide (a < 0)) a.natAbs 0) := rfl
    rw [e]
    exact ff_short a 14 4816244402031689728 6 (-14) h ha (by decide) (by decide) (by decide) (by decide) (by decide) (by decide) (by decide)
theorem name_p6 (w : World) : Calls Tryd.prog 9 #[.int .i64 6] w fun e w' => e = .returned (.string ⟨#[77, 66, 84, 67]⟩) ∧ w' = w := by
  go_enter Tryd.func9, Tryd.ntmps9
  go_wp2
  go_ret
  exact ⟨rfl, rfl⟩
theorem unit_p6 (w : World) : Calls Tryd.prog 6 #[.int .i64 6] w fun e w' => e = .returned (.string ⟨#[77, 66, 84, 67]⟩) ∧ w' = w := by
  go_enter Tryd.func6, Tryd.ntmps6
  go_wp2_with (first | (go_at_call 9; refine (name_p6 _).mono ?_; rintro e w2 ⟨rfl, h2⟩; obtain rfl := h2.symm) | fail)
  go_ret
  exact ⟨rfl, rfl⟩
theorem format_p6 (a : Int) (ha : a.natAbs ≤ 1000000000000000) (w : World) (hE : Env w) (hc0 : w.cell? ⟨1, 0, none⟩ = some (.float .f64 4607182418800017408)) (hc1 : w.cell? ⟨2, 14, none⟩ = some (.float .f64 4816244402031689728)) :
    Calls Tryd.prog 8 #[.int .i64 a, .int .i64 6] w fun e w' => e = .returned (.string (fOut a 14 ++ ((⟨#[32]⟩ : ByteArray) ++ (⟨#[77, 66, 84, 67]⟩ : ByteArray)))) ∧ Below w.heap.size w w' := by
  obtain ⟨r, hr, hF⟩ := num_p6 a ha
  have P := Lib.hid (tounit_p6 a r w hc0 hc1 hr)
  have HF := Lib.hid hF
  have HE := Lib.hid hE
  have hsz := fOut_size a 14 ha (by decide)
  obtain ⟨s, hs⟩ : ∃ s, s = fOut a 14 := ⟨_, rfl⟩
  rw [← hs] at HF hsz ⊢
  clear hF hr hc0 hc1 ha hs hE
  go_enter Tryd.func8, Tryd.ntmps8
  go_wp2_with (first
    | (go_at_call 9; refine (name_p6 _).mono ?_; rintro e w2 ⟨rfl, h2⟩; obtain rfl := h2.symm)
    | (go_at_call 11; refine P.out.mono ?_; rintro e w1 ⟨rfl, h1⟩; have HB1 := Aside0.mk (drewN_below h1); clear h1)
    | (go_at_call 10; refine (HF.out _ (HE.out.below HB1.out)).mono ?_; rintro e w2 ⟨rfl, h2⟩; have HB2 := Aside0.mk (HB1.out.trans (h2.mono HB1.out.size)); clear h2)
    | fail)
  go_ret
  exact ⟨rfl, HB2.out⟩
theorem amount_p6 (a : Int) (h0 : -1000000000000000 ≤ a) (h1 : a ≤ 1000000000000000) (w : World) (hE : Env w) (hc0 : w.cell? ⟨1, 0, none⟩ = some (.float .f64 4607182418800017408)) (hc1 : w.cell? ⟨2, 14, none⟩ = some (.float .f64 4816244402031689728)) :
    Calls Tryd.prog 4 #[.int .i64 a, .int .i64 6] w fun e w' => e = .returned (.tuple #[.string (fOut a 14 ++ ((⟨#[32]⟩ : ByteArray) ++ (⟨#[77, 66, 84, 67]⟩ : ByteArray))), .bool true]) ∧ Below w.heap.size w w' := by
  have HF := Lib.hid (format_p6 a (by omega) w hE hc0 hc1)
  have HW := Lib.hid (within_calls a w h0 h1)
  clear hE hc0 hc1 h0 h1
  go_enter Tryd.func4, Tryd.ntmps4
  go_wp2_with (first
    | (go_at_call 7; refine HW.out.mono ?_; rintro e w2 ⟨rfl, h2⟩; obtain rfl := h2.symm)
    | (go_at_call 8; refine HF.out.mono ?_; rintro e w2 ⟨rfl, h2⟩; have HB2 := Aside0.mk h2; clear h2)
    | fail)
  go_ret2
  exact ⟨rfl, HB2.out⟩
theorem law_p6 (a : Int) (h0 : -1000000000000000 ≤ a) (h1 : a ≤ 1000000000000000) (w : World) (hE : Env w) (hc0 : w.cell? ⟨1, 0, none⟩ = some (.float .f64 4607182418800017408)) (hc1 : w.cell? ⟨2, 14, none⟩ = some (.float .f64 4816244402031689728)) :
    Calls Tryd.prog 3 #[.int .i64 a, .int .i64 6] w fun e w' => e = .returned (.bool true) ∧ Below w.heap.size w w' := by
  have HA := Lib.hid (amount_p6 a h0 h1 w hE hc0 hc1)
  have HD := Lib.hid (fun w1 => dec_calls a 14 (by omega) (by decide) w1)
  have hsz := fOut_size a 14 (by omega) (by decide)
  have happ : ∀ s : ByteArray, s ++ ((⟨#[32]⟩ : ByteArray) ++ (⟨#[77, 66, 84, 67]⟩ : ByteArray)) = s ++ (⟨#[32]⟩ : ByteArray) ++ (⟨#[77, 66, 84, 67]⟩ : ByteArray) := fun s => (ByteArray.append_assoc).symm
  have HP := Lib.hid happ
  obtain ⟨s, hs⟩ : ∃ s, s = fOut a 14 := ⟨_, rfl⟩
  have hs2 : s = strOfNums ((if decide (a < 0) then [45] else []) ++ txt a.natAbs 14) := hs
  rw [← hs] at HA hsz
  rw [← hs2] at HD
  rw [happ] at HA
  clear hs hs2 hE hc0 hc1 happ
  go_enter Tryd.func3, Tryd.ntmps3
  go_wp2_with (first
    | (go_at_call 4; refine HA.out.mono ?_; rintro e w1 ⟨rfl, h2⟩; have HB1 := Aside0.mk h2; clear h2)
    | (go_at_call 5; refine (HD.out _).mono ?_; rintro e w2 ⟨rfl, h2⟩; have HB2 := Aside0.mk (HB1.out.trans (h2.mono HB1.out.size)); clear h2)
    | (go_at_call 6; refine (unit_p6 _).mono ?_; rintro e w3 ⟨rfl, h2⟩; obtain rfl := h2.symm)
    | (go_at_call 6; refine (unit_m8 _).mono ?_; rintro e w3 ⟨rfl, h2⟩; obtain rfl := h2.symm)
    | fail)
  all_goals first | (exfalso; omega) | (go_ret; exact ⟨rfl, HB2.out⟩)

theorem pow_p3 (w : World) (hc0 : w.cell? ⟨1, 0, none⟩ = some (.float .f64 4607182418800017408)) (hc1 : w.cell? ⟨2, 11, none⟩ = some (.float .f64 4771362005757984768)) :
    Calls Tryd.prog 14 #[.int .i64 11] w fun e w' => e = .returned (.float .f64 4771362005757984768) ∧ ∃ n, w' = w.drewN n := by
  have hm : ∀ w, (binOp .mul 34 (.float .f64 4607182418800017408) (.float .f64 4771362005757984768)).run Tryd.prog w = .ok (.float .f64 4771362005757984768) w := fun w => run_float_arith w .mul 34 .f64 _ _ _ (by decide +kernel)
  go_enter Tryd.func14, Tryd.ntmps14
  go_wp2
  go_quiet (fail)
  go_wp2
  go_ret
  exact ⟨rfl, _, rfl⟩
theorem tounit_p3 (a : Int) (r : Nat) (w : World) (hc0 : w.cell? ⟨1, 0, none⟩ = some (.float .f64 4607182418800017408)) (hc1 : w.cell? ⟨2, 11, none⟩ = some (.float .f64 4771362005757984768))
    (hr : Ieee.double.div (floatOfInt .f64 a) 4771362005757984768 = some r) :
    Calls Tryd.prog 11 #[.int .i64 a, .int .i64 3] w fun e w' => e = .returned (.float .f64 r) ∧ ∃ n, w' = w.drewN n := by
  have P := Lib.hid (pow_p3 w hc0 hc1)
  have hq : ∀ w, (binOp .quo 34 (.float .f64 (floatOfInt .f64 a)) (.float .f64 4771362005757984768)).run Tryd.prog w = .ok (.float .f64 r) w := fun w => run_float_arith w .quo 34 .f64 _ _ _ hr
  clear hr hc0 hc1
  go_enter Tryd.func11, Tryd.ntmps11
  go_wp2_with (first | (go_at_call 14; refine P.out.mono ?_; rintro e w' ⟨rfl, n, rfl⟩) | fail)
  go_ret
  exact ⟨rfl, _, rfl⟩
theorem num_p3 (a : Int) (ha : a.natAbs ≤ 1000000000000000) : ∃ f : Nat, Ieee.double.div (floatOfInt .f64 a) 4771362005757984768 = some f ∧ ∀ w, Env w → Calls Tryd.prog 10 #[.float .f64 f, .int .u8 102, .int .i64 (-11), .int .i64 64] w fun e w' => e = .returned (.string (fOut a 11)) ∧ Below w.heap.size w w' := by
  by_cases h : a = 0
  · subst h
    exact ⟨0, by decide +kernel, fun w _ => ff_zero 11 (-11) (by decide) (by decide) w⟩
  · have e : floatOfInt .f64 a = Ieee.double.write (.number (decide (a < 0)) a.natAbs 0) := rfl
    rw [e]
    exact ff_short a 11 4771362005757984768 16 (-11) h ha (by decide) (by decide) (by decide) (by decide) (by decide) (by decide) (by decide)
theorem name_p3 (w : World) : Calls Tryd.prog 9 #[.int .i64 3] w fun e w' => e = .returned (.string ⟨#[107, 66, 84, 67]⟩) ∧ w' = w := by
  go_enter Tryd.func9, Tryd.ntmps9
  go_wp2
  go_ret
  exact ⟨rfl, rfl⟩
theorem unit_p3 (w : World) : Calls Tryd.prog 6 #[.int .i64 3] w fun e w' => e = .returned (.string ⟨#[107, 66, 84, 67]⟩) ∧ w' = w := by
  go_enter Tryd.func6, Tryd.ntmps6
  go_wp2_with (first | (go_at_call 9; refine (name_p3 _).mono ?_; rintro e w2 ⟨rfl, h2⟩; obtain rfl := h2.symm) | fail)
  go_ret
  exact ⟨rfl, rfl⟩
theorem format_p3 (a : Int) (ha : a.natAbs ≤ 1000000000000000) (w : World) (hE : Env w) (hc0 : w.cell? ⟨1, 0, none⟩ = some (.float .f64 4607182418800017408)) (hc1 : w.cell? ⟨2, 11, none⟩ = some (.float .f64 4771362005757984768)) :
    Calls Tryd.prog 8 #[.int .i64 a, .int .i64 3] w fun e w' => e = .returned (.string (fOut a 11 ++ ((⟨#[32]⟩ : ByteArray) ++ (⟨#[107, 66, 84, 67]⟩ : ByteArray)))) ∧ Below w.heap.size w w' := by
  obtain ⟨r, hr, hF⟩ := num_p3 a ha
  have P := Lib.hid (tounit_p3 a r w hc0 hc1 hr)
  have HF := Lib.hid hF
  have HE := Lib.hid hE
  have hsz := fOut_size a 11 ha (by decide)
  obtain ⟨s, hs⟩ : ∃ s, s = fOut a 11 := ⟨_, rfl⟩
  rw [← hs] at HF hsz ⊢
  clear hF hr hc0 hc1 ha hs hE
  go_enter Tryd.func8, Tryd.ntmps8
  go_wp2_with (first
    | (go_at_call 9; refine (name_p3 _).mono ?_; rintro e w2 ⟨rfl, h2⟩; obtain rfl := h2.symm)
    | (go_at_call 11; refine P.out.mono ?_; rintro e w1 ⟨rfl, h1⟩; have HB1 := Aside0.mk (drewN_below h1); clear h1)
    | (go_at_call 10; refine (HF.out _ (HE.out.below HB1.out)).mono ?_; rintro e w2 ⟨rfl, h2⟩; have HB2 := Aside0.mk (HB1.out.trans (h2.mono HB1.out.size)); clear h2)
    | fail)
  go_ret
  exact ⟨rfl, HB2.out⟩
theorem amount_p3 (a : Int) (h0 : -1000000000000000 ≤ a) (h1 : a ≤ 1000000000000000) (w : World) (hE : Env w) (hc0 : w.cell? ⟨1, 0, none⟩ = some (.float .f64 4607182418800017408)) (hc1 : w.cell? ⟨2, 11, none⟩ = some (.float .f64 4771362005757984768)) :
    Calls Tryd.prog 4 #[.int .i64 a, .int .i64 3] w fun e w' => e = .returned (.tuple #[.string (fOut a 11 ++ ((⟨#[32]⟩ : ByteArray) ++ (⟨#[107, 66, 84, 67]⟩ : ByteArray))), .bool true]) ∧ Below w.heap.size w w' := by
  have HF := Lib.hid (format_p3 a (by omega) w hE hc0 hc1)
  have HW := Lib.hid (within_calls a w h0 h1)
  clear hE hc0 hc1 h0 h1
  go_enter Tryd.func4, Tryd.ntmps4
  go_wp2_with (first
    | (go_at_call 7; refine HW.out.mono ?_; rintro e w2 ⟨rfl, h2⟩; obtain rfl := h2.symm)
    | (go_at_call 8; refine HF.out.mono ?_; rintro e w2 ⟨rfl, h2⟩; have HB2 := Aside0.mk h2; clear h2)
    | fail)
  go_ret2
  exact ⟨rfl, HB2.out⟩
theorem law_p3 (a : Int) (h0 : -1000000000000000 ≤ a) (h1 : a ≤ 1000000000000000) (w : World) (hE : Env w) (hc0 : w.cell? ⟨1, 0, none⟩ = some (.float .f64 4607182418800017408)) (hc1 : w.cell? ⟨2, 11, none⟩ = some (.float .f64 4771362005757984768)) :
    Calls Tryd.prog 3 #[.int .i64 a, .int .i64 3] w fun e w' => e = .returned (.bool true) ∧ Below w.heap.size w w' := by
  have HA := Lib.hid (amount_p3 a h0 h1 w hE hc0 hc1)
  have HD := Lib.hid (fun w1 => dec_calls a 11 (by omega) (by decide) w1)
  have hsz := fOut_size a 11 (by omega) (by decide)
  have happ : ∀ s : ByteArray, s ++ ((⟨#[32]⟩ : ByteArray) ++ (⟨#[107, 66, 84, 67]⟩ : ByteArray)) = s ++ (⟨#[32]⟩ : ByteArray) ++ (⟨#[107, 66, 84, 67]⟩ : ByteArray) := fun s => (ByteArray.append_assoc).symm
  have HP := Lib.hid happ
  obtain ⟨s, hs⟩ : ∃ s, s = fOut a 11 := ⟨_, rfl⟩
  have hs2 : s = strOfNums ((if decide (a < 0) then [45] else []) ++ txt a.natAbs 11) := hs
  rw [← hs] at HA hsz
  rw [← hs2] at HD
  rw [happ] at HA
  clear hs hs2 hE hc0 hc1 happ
  go_enter Tryd.func3, Tryd.ntmps3
  go_wp2_with (first
    | (go_at_call 4; refine HA.out.mono ?_; rintro e w1 ⟨rfl, h2⟩; have HB1 := Aside0.mk h2; clear h2)
    | (go_at_call 5; refine (HD.out _).mono ?_; rintro e w2 ⟨rfl, h2⟩; have HB2 := Aside0.mk (HB1.out.trans (h2.mono HB1.out.size)); clear h2)
    | (go_at_call 6; refine (unit_p3 _).mono ?_; rintro e w3 ⟨rfl, h2⟩; obtain rfl := h2.symm)
    | (go_at_call 6; refine (unit_m8 _).mono ?_; rintro e w3 ⟨rfl, h2⟩; obtain rfl := h2.symm)
    | fail)
  all_goals first | (exfalso; omega) | (go_ret; exact ⟨rfl, HB2.out⟩)

theorem pow_p0 (w : World) (hc0 : w.cell? ⟨1, 0, none⟩ = some (.float .f64 4607182418800017408)) (hc1 : w.cell? ⟨2, 8, none⟩ = some (.float .f64 4726483295884279808)) :
    Calls Tryd.prog 14 #[.int .i64 8] w fun e w' => e = .returned (.float .f64 4726483295884279808) ∧ ∃ n, w' = w.drewN n := by
  have hm : ∀ w, (binOp .mul 34 (.float .f64 4607182418800017408) (.float .f64 4726483295884279808)).run Tryd.prog w = .ok (.float .f64 4726483295884279808) w := fun w => run_float_arith w .mul 34 .f64 _ _ _ (by decide +kernel)
  go_enter Tryd.func14, Tryd.ntmps14
  go_wp2
  go_quiet (fail)
  go_wp2
  go_ret
  exact ⟨rfl, _, rfl⟩
theorem tounit_p0 (a : Int) (r : Nat) (w : World) (hc0 : w.cell? ⟨1, 0, none⟩ = some (.float .f64 4607182418800017408)) (hc1 : w.cell? ⟨2, 8, none⟩ = some (.float .f64 4726483295884279808))
    (hr : Ieee.double.div (floatOfInt .f64 a) 4726483295884279808 = some r) :
    Calls Tryd.prog 11 #[.int .i64 a, .int .i64 0] w fun e w' => e = .returned (.float .f64 r) ∧ ∃ n, w' = w.drewN n := by
  have P := Lib.hid (pow_p0 w hc0 hc1)
  have hq : ∀ w, (binOp .quo 34 (.float .f64 (floatOfInt .f64 a)) (.float .f64 4726483295884279808)).run Tryd.prog w = .ok (.float .f64 r) w := fun w => run_float_arith w .quo 34 .f64 _ _ _ hr
  clear hr hc0 hc1
  go_enter Tryd.func11, Tryd.ntmps11
  go_wp2_with (first | (go_at_call 14; refine P.out.mono ?_; rintro e w' ⟨rfl, n, rfl⟩) | fail)
  go_ret
  exact ⟨rfl, _, rfl⟩
theorem num_p0 (a : Int) (ha : a.natAbs ≤ 1000000000000000) : ∃ f : Nat, Ieee.double.div (floatOfInt .f64 a) 4726483295884279808 = some f ∧ ∀ w, Env w → Calls Tryd.prog 10 #[.float .f64 f, .int .u8 102, .int .i64 (-8), .int .i64 64] w fun e w' => e = .returned (.string (fOut a 8)) ∧ Below w.heap.size w w' := by
  by_cases h : a = 0
  · subst h
    exact ⟨0, by decide +kernel, fun w _ => ff_zero 8 (-8) (by decide) (by decide) w⟩
  · have e : floatOfInt .f64 a = Ieee.double.write (.number (decide (a < 0)) a.natAbs 0) := rfl
    rw [e]
    exact ff_short a 8 4726483295884279808 26 (-8) h ha (by decide) (by decide) (by decide) (by decide) (by decide) (by decide) (by decide)
theorem name_p0 (w : World) : Calls Tryd.prog 9 #[.int .i64 0] w fun e w' => e = .returned (.string ⟨#[66, 84, 67]⟩) ∧ w' = w := by
  go_enter Tryd.func9, Tryd.ntmps9
  go_wp2
  go_ret
  exact ⟨rfl, rfl⟩
theorem unit_p0 (w : World) : Calls Tryd.prog 6 #[.int .i64 0] w fun e w' => e = .returned (.string ⟨#[66, 84, 67]⟩) ∧ w' = w := by
  go_enter Tryd.func6, Tryd.ntmps6
  go_wp2_with (first | (go_at_call 9; refine (name_p0 _).mono ?_; rintro e w2 ⟨rfl, h2⟩; obtain rfl := h2.symm) | fail)
  go_ret
  exact ⟨rfl, rfl⟩
theorem format_p0 (a : Int) (ha : a.natAbs ≤ 1000000000000000) (w : World) (hE : Env w) (hc0 : w.cell? ⟨1, 0, none⟩ = some (.float .f64 4607182418800017408)) (hc1 : w.cell? ⟨2, 8, none⟩ = some (.float .f64 4726483295884279808)) :
    Calls Tryd.prog 8 #[.int .i64 a, .int .i64 0] w fun e w' => e = .returned (.string (fOut a 8 ++ ((⟨#[32]⟩ : ByteArray) ++ (⟨#[66, 84, 67]⟩ : ByteArray)))) ∧ Below w.heap.size w w' := by
  obtain ⟨r, hr, hF⟩ := num_p0 a ha
  have P := Lib.hid (tounit_p0 a r w hc0 hc1 hr)
  have HF := Lib.hid hF
  have HE := Lib.hid hE
  have hsz := fOut_size a 8 ha (by decide)
  obtain ⟨s, hs⟩ : ∃ s, s = fOut a 8 := ⟨_, rfl⟩
  rw [← hs] at HF hsz ⊢
  clear hF hr hc0 hc1 ha hs hE
  go_enter Tryd.func8, Tryd.ntmps8
  go_wp2_with (first
    | (go_at_call 9; refine (name_p0 _).mono ?_; rintro e w2 ⟨rfl, h2⟩; obtain rfl := h2.symm)
    | (go_at_call 11; refine P.out.mono ?_; rintro e w1 ⟨rfl, h1⟩; have HB1 := Aside0.mk (drewN_below h1); clear h1)
    | (go_at_call 10; refine (HF.out _ (HE.out.below HB1.out)).mono ?_; rintro e w2 ⟨rfl, h2⟩; have HB2 := Aside0.mk (HB1.out.trans (h2.mono HB1.out.size)); clear h2)
    | fail)
  go_ret
  exact ⟨rfl, HB2.out⟩
theorem amount_p0 (a : Int) (h0 : -1000000000000000 ≤ a) (h1 : a ≤ 1000000000000000) (w : World) (hE : Env w) (hc0 : w.cell? ⟨1, 0, none⟩ = some (.float .f64 4607182418800017408)) (hc1 : w.cell? ⟨2, 8, none⟩ = some (.float .f64 4726483295884279808)) :
    Calls Tryd.prog 4 #[.int .i64 a, .int .i64 0] w fun e w' => e = .returned (.tuple #[.string (fOut a 8 ++ ((⟨#[32]⟩ : ByteArray) ++ (⟨#[66, 84, 67]⟩ : ByteArray))), .bool true]) ∧ Below w.heap.size w w' := by
  have HF := Lib.hid (format_p0 a (by omega) w hE hc0 hc1)
  have HW := Lib.hid (within_calls a w h0 h1)
  clear hE hc0 hc1 h0 h1
  go_enter Tryd.func4, Tryd.ntmps4
  go_wp2_with (first
    | (go_at_call 7; refine HW.out.mono ?_; rintro e w2 ⟨rfl, h2⟩; obtain rfl := h2.symm)
    | (go_at_call 8; refine HF.out.mono ?_; rintro e w2 ⟨rfl, h2⟩; have HB2 := Aside0.mk h2; clear h2)
    | fail)
  go_ret2
  exact ⟨rfl, HB2.out⟩
theorem law_p0 (a : Int) (h0 : -1000000000000000 ≤ a) (h1 : a ≤ 1000000000000000) (w : World) (hE : Env w) (hc0 : w.cell? ⟨1, 0, none⟩ = some (.float .f64 4607182418800017408)) (hc1 : w.cell? ⟨2, 8, none⟩ = some (.float .f64 4726483295884279808)) :
    Calls Tryd.prog 3 #[.int .i64 a, .int .i64 0] w fun e w' => e = .returned (.bool true) ∧ Below w.heap.size w w' := by
  have HA := Lib.hid (amount_p0 a h0 h1 w hE hc0 hc1)
  have HD := Lib.hid (fun w1 => dec_calls a 8 (by omega) (by decide) w1)
  have hsz := fOut_size a 8 (by omega) (by decide)
  have happ : ∀ s : ByteArray, s ++ ((⟨#[32]⟩ : ByteArray) ++ (⟨#[66, 84, 67]⟩ : ByteArray)) = s ++ (⟨#[32]⟩ : ByteArray) ++ (⟨#[66, 84, 67]⟩ : ByteArray) := fun s => (ByteArray.append_assoc).symm
  have HP := Lib.hid happ
  obtain ⟨s, hs⟩ : ∃ s, s = fOut a 8 := ⟨_, rfl⟩
  have hs2 : s = strOfNums ((if decide (a < 0) then [45] else []) ++ txt a.natAbs 8) := hs
  rw [← hs] at HA hsz
  rw [← hs2] at HD
  rw [happ] at HA
  clear hs hs2 hE hc0 hc1 happ
  go_enter Tryd.func3, Tryd.ntmps3
  go_wp2_with (first
    | (go_at_call 4; refine HA.out.mono ?_; rintro e w1 ⟨rfl, h2⟩; have HB1 := Aside0.mk h2; clear h2)
    | (go_at_call 5; refine (HD.out _).mono ?_; rintro e w2 ⟨rfl, h2⟩; have HB2 := Aside0.mk (HB1.out.trans (h2.mono HB1.out.size)); clear h2)
    | (go_at_call 6; refine (unit_p0 _).mono ?_; rintro e w3 ⟨rfl, h2⟩; obtain rfl := h2.symm)
    | (go_at_call 6; refine (unit_m8 _).mono ?_; rintro e w3 ⟨rfl, h2⟩; obtain rfl := h2.symm)
    | fail)
  all_goals first | (exfalso; omega) | (go_ret; exact ⟨rfl, HB2.out⟩)

theorem pow_m3 (w : World) (hc0 : w.cell? ⟨1, 0, none⟩ = some (.float .f64 4607182418800017408)) (hc1 : w.cell? ⟨2, 5, none⟩ = some (.float .f64 4681608360884174848)) :
    Calls Tryd.prog 14 #[.int .i64 5] w fun e w' => e = .returned (.float .f64 4681608360884174848) ∧ ∃ n, w' = w.drewN n := by
  have hm : ∀ w, (binOp .mul 34 (.float .f64 4607182418800017408) (.float .f64 4681608360884174848)).run Tryd.prog w = .ok (.float .f64 4681608360884174848) w := fun w => run_float_arith w .mul 34 .f64 _ _ _ (by decide +kernel)
  go_enter Tryd.func14, Tryd.ntmps14
  go_wp2
  go_quiet (fail)
  go_wp2
  go_ret
  exact ⟨rfl, _, rfl⟩
theorem tounit_m3 (a : Int) (r : Nat) (w : World) (hc0 : w.cell? ⟨1, 0, none⟩ = some (.float .f64 4607182418800017408)) (hc1 : w.cell? ⟨2, 5, none⟩ = some (.float .f64 4681608360884174848))
    (hr : Ieee.double.div (floatOfInt .f64 a) 4681608360884174848 = some r) :
    Calls Tryd.prog 11 #[.int .i64 a, .int .i64 (-3)] w fun e w' => e = .returned (.float .f64 r) ∧ ∃ n, w' = w.drewN n := by
  have P := Lib.hid (pow_m3 w hc0 hc1)
  have hq : ∀ w, (binOp .quo 34 (.float .f64 (floatOfInt .f64 a)) (.float .f64 4681608360884174848)).run Tryd.prog w = .ok (.float .f64 r) w := fun w => run_float_arith w .quo 34 .f64 _ _ _ hr
  clear hr hc0 hc1
  go_enter Tryd.func11, Tryd.ntmps11
  go_wp2_with (first | (go_at_call 14; refine P.out.mono ?_; rintro e w' ⟨rfl, n, rfl⟩) | fail)
  go_ret
  exact ⟨rfl, _, rfl⟩
theorem num_m3 (a : Int) (ha : a.natAbs ≤ 1000000000000000) : ∃ f : Nat, Ieee.double.div (floatOfInt .f64 a) 4681608360884174848 = some f ∧ ∀ w, Env w → Calls Tryd.prog 10 #[.float .f64 f, .int .u8 102, .int .i64 (-5), .int .i64 64] w fun e w' => e = .returned (.string (fOut a 5)) ∧ Below w.heap.size w w' := by
  by_cases h : a = 0
  · subst h
    exact ⟨0, by decide +kernel, fun w _ => ff_zero 5 (-5) (by decide) (by decide) w⟩
  · have e : floatOfInt .f64 a = Ieee.double.write (.number (decide (a < 0)) a.natAbs 0) := rfl
    rw [e]
    exact ff_short a 5 4681608360884174848 36 (-5) h ha (by decide) (by decide) (by decide) (by decide) (by decide) (by decide) (by decide)
theorem name_m3 (w : World) : Calls Tryd.prog 9 #[.int .i64 (-3)] w fun e w' => e = .returned (.string ⟨#[109, 66, 84, 67]⟩) ∧ w' = w := by
  go_enter Tryd.func9, Tryd.ntmps9
  go_wp2
  go_ret
  exact ⟨rfl, rfl⟩
theorem unit_m3 (w : World) : Calls Tryd.prog 6 #[.int .i64 (-3)] w fun e w' => e = .returned (.string ⟨#[109, 66, 84, 67]⟩) ∧ w' = w := by
  go_enter Tryd.func6, Tryd.ntmps6
  go_wp2_with (first | (go_at_call 9; refine (name_m3 _).mono ?_; rintro e w2 ⟨rfl, h2⟩; obtain rfl := h2.symm) | fail)
  go_ret
  exact ⟨rfl, rfl⟩
theorem format_m3 (a : Int) (ha : a.natAbs ≤ 1000000000000000) (w : World) (hE : Env w) (hc0 : w.cell? ⟨1, 0, none⟩ = some (.float .f64 4607182418800017408)) (hc1 : w.cell? ⟨2, 5, none⟩ = some (.float .f64 4681608360884174848)) :
    Calls Tryd.prog 8 #[.int .i64 a, .int .i64 (-3)] w fun e w' => e = .returned (.string (fOut a 5 ++ ((⟨#[32]⟩ : ByteArray) ++ (⟨#[109, 66, 84, 67]⟩ : ByteArray)))) ∧ Below w.heap.size w w' := by
  obtain ⟨r, hr, hF⟩ := num_m3 a ha
  have P := Lib.hid (tounit_m3 a r w hc0 hc1 hr)
  have HF := Lib.hid hF
  have HE := Lib.hid hE
  have hsz := fOut_size a 5 ha (by decide)
  obtain ⟨s, hs⟩ : ∃ s, s = fOut a 5 := ⟨_, rfl⟩
  rw [← hs] at HF hsz ⊢
  clear hF hr hc0 hc1 ha hs hE
  go_enter Tryd.func8, Tryd.ntmps8
  go_wp2_with (first
    | (go_at_call 9; refine (name_m3 _).mono ?_; rintro e w2 ⟨rfl, h2⟩; obtain rfl := h2.symm)
    | (go_at_call 11; refine P.out.mono ?_; rintro e w1 ⟨rfl, h1⟩; have HB1 := Aside0.mk (drewN_below h1); clear h1)
    | (go_at_call 10; refine (HF.out _ (HE.out.below HB1.out)).mono ?_; rintro e w2 ⟨rfl, h2⟩; have HB2 := Aside0.mk (HB1.out.trans (h2.mono HB1.out.size)); clear h2)
    | fail)
  go_ret
  exact ⟨rfl, HB2.out⟩
theorem amount_m3 (a : Int) (h0 : -1000000000000000 ≤ a) (h1 : a ≤ 1000000000000000) (w : World) (hE : Env w) (hc0 : w.cell? ⟨1, 0, none⟩ = some (.float .f64 4607182418800017408)) (hc1 : w.cell? ⟨2, 5, none⟩ = some (.float .f64 4681608360884174848)) :
    Calls Tryd.prog 4 #[.int .i64 a, .int .i64 (-3)] w fun e w' => e = .returned (.tuple #[.string (fOut a 5 ++ ((⟨#[32]⟩ : ByteArray) ++ (⟨#[109, 66, 84, 67]⟩ : ByteArray))), .bool true]) ∧ Below w.heap.size w w' := by
  have HF := Lib.hid (format_m3 a (by omega) w hE hc0 hc1)
  have HW := Lib.hid (within_calls a w h0 h1)
  clear hE hc0 hc1 h0 h1
  go_enter Tryd.func4, Tryd.ntmps4
  go_wp2_with (first
    | (go_at_call 7; refine HW.out.mono ?_; rintro e w2 ⟨rfl, h2⟩; obtain rfl := h2.symm)
    | (go_at_call 8; refine HF.out.mono ?_; rintro e w2 ⟨rfl, h2⟩; have HB2 := Aside0.mk h2; clear h2)
    | fail)
  go_ret2
  exact ⟨rfl, HB2.out⟩
theorem law_m3 (a : Int) (h0 : -1000000000000000 ≤ a) (h1 : a ≤ 1000000000000000) (w : World) (hE : Env w) (hc0 : w.cell? ⟨1, 0, none⟩ = some (.float .f64 4607182418800017408)) (hc1 : w.cell? ⟨2, 5, none⟩ = some (.float .f64 4681608360884174848)) :
    Calls Tryd.prog 3 #[.int .i64 a, .int .i64 (-3)] w fun e w' => e = .returned (.bool true) ∧ Below w.heap.size w w' := by
  have HA := Lib.hid (amount_m3 a h0 h1 w hE hc0 hc1)
  have HD := Lib.hid (fun w1 => dec_calls a 5 (by omega) (by decide) w1)
  have hsz := fOut_size a 5 (by omega) (by decide)
  have happ : ∀ s : ByteArray, s ++ ((⟨#[32]⟩ : ByteArray) ++ (⟨#[109, 66, 84, 67]⟩ : ByteArray)) = s ++ (⟨#[32]⟩ : ByteArray) ++ (⟨#[109, 66, 84, 67]⟩ : ByteArray) := fun s => (ByteArray.append_assoc).symm
  have HP := Lib.hid happ
  obtain ⟨s, hs⟩ : ∃ s, s = fOut a 5 := ⟨_, rfl⟩
  have hs2 : s = strOfNums ((if decide (a < 0) then [45] else []) ++ txt a.natAbs 5) := hs
  rw [← hs] at HA hsz
  rw [← hs2] at HD
  rw [happ] at HA
  clear hs hs2 hE hc0 hc1 happ
  go_enter Tryd.func3, Tryd.ntmps3
  go_wp2_with (first
    | (go_at_call 4; refine HA.out.mono ?_; rintro e w1 ⟨rfl, h2⟩; have HB1 := Aside0.mk h2; clear h2)
    | (go_at_call 5; refine (HD.out _).mono ?_; rintro e w2 ⟨rfl, h2⟩; have HB2 := Aside0.mk (HB1.out.trans (h2.mono HB1.out.size)); clear h2)
    | (go_at_call 6; refine (unit_m3 _).mono ?_; rintro e w3 ⟨rfl, h2⟩; obtain rfl := h2.symm)
    | (go_at_call 6; refine (unit_m8 _).mono ?_; rintro e w3 ⟨rfl, h2⟩; obtain rfl := h2.symm)
    | fail)
  all_goals first | (exfalso; omega) | (go_ret; exact ⟨rfl, HB2.out⟩)

theorem pow_m6 (w : World) (hc0 : w.cell? ⟨1, 0, none⟩ = some (.float .f64 4607182418800017408)) (hc1 : w.cell? ⟨2, 2, none⟩ = some (.float .f64 4636737291354636288)) :
    Calls Tryd.prog 14 #[.int .i64 2] w fun e w' => e = .returned (.float .f64 4636737291354636288) ∧ ∃ n, w' = w.drewN n := by
  have hm : ∀ w, (binOp .mul 34 (.float .f64 4607182418800017408) (.float .f64 4636737291354636288)).run Tryd.prog w = .ok (.float .f64 4636737291354636288) w := fun w => run_float_arith w .mul 34 .f64 _ _ _ (by decide +kernel)
  go_enter Tryd.func14, Tryd.ntmps14
  go_wp2
  go_quiet (fail)
  go_wp2
  go_ret
  exact ⟨rfl, _, rfl⟩
theorem tounit_m6 (a : Int) (r : Nat) (w : World) (hc0 : w.cell? ⟨1, 0, none⟩ = some (.float .f64 4607182418800017408)) (hc1 : w.cell? ⟨2, 2, none⟩ = some (.float .f64 4636737291354636288))
    (hr : Ieee.double.div (floatOfInt .f64 a) 4636737291354636288 = some r) :
    Calls Tryd.prog 11 #[.int .i64 a, .int .i64 (-6)] w fun e w' => e = .returned (.float .f64 r) ∧ ∃ n, w' = w.drewN n := by
  have P := Lib.hid (pow_m6 w hc0 hc1)
  have hq : ∀ w, (binOp .quo 34 (.float .f64 (floatOfInt .f64 a)) (.float .f64 4636737291354636288)).run Tryd.prog w = .ok (.float .f64 r) w := fun w => run_float_arith w .quo 34 .f64 _ _ _ hr
  clear hr hc0 hc1
  go_enter Tryd.func11, Tryd.ntmps11
  go_wp2_with (first | (go_at_call 14; refine P.out.mono ?_; rintro e w' ⟨rfl, n, rfl⟩) | fail)
  go_ret
  exact ⟨rfl, _, rfl⟩
theorem num_m6 (a : Int) (ha : a.natAbs ≤ 1000000000000000) : ∃ f : Nat, Ieee.double.div (floatOfInt .f64 a) 4636737291354636288 = some f ∧ ∀ w, Env w → Calls Tryd.prog 10 #[.float .f64 f, .int .u8 102, .int .i64 (-2), .int .i64 64] w fun e w' => e = .returned (.string (fOut a 2)) ∧ Below w.heap.size w w' := by
  by_cases h : a = 0
  · subst h
    exact ⟨0, by decide +kernel, fun w _ => ff_zero 2 (-2) (by decide) (by decide) w⟩
  · have e : floatOfInt .f64 a = Ieee.double.write (.number (decide (a < 0)) a.natAbs 0) := rfl
    rw [e]
    exact ff_short a 2 4636737291354636288 46 (-2) h ha (by decide) (by decide) (by decide) (by decide) (by decide) (by decide) (by decide)
theorem name_m6 (w : World) : Calls Tryd.prog 9 #[.int .i64 (-6)] w fun e w' => e = .returned (.string ⟨#[206, 188, 66, 84, 67]⟩) ∧ w' = w := by
  go_enter Tryd.func9, Tryd.ntmps9
  go_wp2
  go_ret
  exact ⟨rfl, rfl⟩
theorem unit_m6 (w : World) : Calls Tryd.prog 6 #[.int .i64 (-6)] w fun e w' => e = .returned (.string ⟨#[206, 188, 66, 84, 67]⟩) ∧ w' = w := by
  go_enter Tryd.func6, Tryd.ntmps6
  go_wp2_with (first | (go_at_call 9; refine (name_m6 _).mono ?_; rintro e w2 ⟨rfl, h2⟩; obtain rfl := h2.symm) | fail)
  go_ret
  exact ⟨rfl, rfl⟩
theorem format_m6 (a : Int) (ha : a.natAbs ≤ 1000000000000000) (w : World) (hE : Env w) (hc0 : w.cell? ⟨1, 0, none⟩ = some (.float .f64 4607182418800017408)) (hc1 : w.cell? ⟨2, 2, none⟩ = some (.float .f64 4636737291354636288)) :
    Calls Tryd.prog 8 #[.int .i64 a, .int .i64 (-6)] w fun e w' => e = .returned (.string (fOut a 2 ++ ((⟨#[32]⟩ : ByteArray) ++ (⟨#[206, 188, 66, 84, 67]⟩ : ByteArray)))) ∧ Below w.heap.size w w' := by
  obtain ⟨r, hr, hF⟩ := num_m6 a ha
  have P := Lib.hid (tounit_m6 a r w hc0 hc1 hr)
  have HF := Lib.hid hF
  have HE := Lib.hid hE
  have hsz := fOut_size a 2 ha (by decide)
  obtain ⟨s, hs⟩ : ∃ s, s = fOut a 2 := ⟨_, rfl⟩
  rw [← hs] at HF hsz ⊢
  clear hF hr hc0 hc1 ha hs hE
  go_enter Tryd.func8, Tryd.ntmps8
  go_wp2_with (first
    | (go_at_call 9; refine (name_m6 _).mono ?_; rintro e w2 ⟨rfl, h2⟩; obtain rfl := h2.symm)
    | (go_at_call 11; refine P.out.mono ?_; rintro e w1 ⟨rfl, h1⟩; have HB1 := Aside0.mk (drewN_below h1); clear h1)
    | (go_at_call 10; refine (HF.out _ (HE.out.below HB1.out)).mono ?_; rintro e w2 ⟨rfl, h2⟩; have HB2 := Aside0.mk (HB1.out.trans (h2.mono HB1.out.size)); clear h2)
    | fail)
  go_ret
  exact ⟨rfl, HB2.out⟩
theorem amount_m6 (a : Int) (h0 : -1000000000000000 ≤ a) (h1 : a ≤ 1000000000000000) (w : World) (hE : Env w) (hc0 : w.cell? ⟨1, 0, none⟩ = some (.float .f64 4607182418800017408)) (hc1 : w.cell? ⟨2, 2, none⟩ = some (.float .f64 4636737291354636288)) :
    Calls Tryd.prog 4 #[.int .i64 a, .int .i64 (-6)] w fun e w' => e = .returned (.tuple #[.string (fOut a 2 ++ ((⟨#[32]⟩ : ByteArray) ++ (⟨#[206, 188, 66, 84, 67]⟩ : ByteArray))), .bool true]) ∧ Below w.heap.size w w' := by
  have HF := Lib.hid (format_m6 a (by omega) w hE hc0 hc1)
  have HW := Lib.hid (within_calls a w h0 h1)
  clear hE hc0 hc1 h0 h1
  go_enter Tryd.func4, Tryd.ntmps4
  go_wp2_with (first
    | (go_at_call 7; refine HW.out.mono ?_; rintro e w2 ⟨rfl, h2⟩; obtain rfl := h2.symm)
    | (go_at_call 8; refine HF.out.mono ?_; rintro e w2 ⟨rfl, h2⟩; have HB2 := Aside0.mk h2; clear h2)
    | fail)
  go_ret2
  exact ⟨rfl, HB2.out⟩
theorem law_m6 (a : Int) (h0 : -1000000000000000 ≤ a) (h1 : a ≤ 1000000000000000) (w : World) (hE : Env w) (hc0 : w.cell? ⟨1, 0, none⟩ = some (.float .f64 4607182418800017408)) (hc1 : w.cell? ⟨2, 2, none⟩ = some (.float .f64 4636737291354636288)) :
    Calls Tryd.prog 3 #[.int .i64 a, .int .i64 (-6)] w fun e w' => e = .returned (.bool true) ∧ Below w.heap.size w w' := by
  have HA := Lib.hid (amount_m6 a h0 h1 w hE hc0 hc1)
  have HD := Lib.hid (fun w1 => dec_calls a 2 (by omega) (by decide) w1)
  have hsz := fOut_size a 2 (by omega) (by decide)
  have happ : ∀ s : ByteArray, s ++ ((⟨#[32]⟩ : ByteArray) ++ (⟨#[206, 188, 66, 84, 67]⟩ : ByteArray)) = s ++ (⟨#[32]⟩ : ByteArray) ++ (⟨#[206, 188, 66, 84, 67]⟩ : ByteArray) := fun s => (ByteArray.append_assoc).symm
  have HP := Lib.hid happ
  obtain ⟨s, hs⟩ : ∃ s, s = fOut a 2 := ⟨_, rfl⟩
  have hs2 : s = strOfNums ((if decide (a < 0) then [45] else []) ++ txt a.natAbs 2) := hs
  rw [← hs] at HA hsz
  rw [← hs2] at HD
  rw [happ] at HA
  clear hs hs2 hE hc0 hc1 happ
  go_enter Tryd.func3, Tryd.ntmps3
  go_wp2_with (first
    | (go_at_call 4; refine HA.out.mono ?_; rintro e w1 ⟨rfl, h2⟩; have HB1 := Aside0.mk h2; clear h2)
    | (go_at_call 5; refine (HD.out _).mono ?_; rintro e w2 ⟨rfl, h2⟩; have HB2 := Aside0.mk (HB1.out.trans (h2.mono HB1.out.size)); clear h2)
    | (go_at_call 6; refine (unit_m6 _).mono ?_; rintro e w3 ⟨rfl, h2⟩; obtain rfl := h2.symm)
    | (go_at_call 6; refine (unit_m8 _).mono ?_; rintro e w3 ⟨rfl, h2⟩; obtain rfl := h2.symm)
    | fail)
  all_goals first | (exfalso; omega) | (go_ret; exact ⟨rfl, HB2.out⟩)

theorem law_out (a u : Int) (w : World) (h : a < -1000000000000000 ∨ 1000000000000000 < a) :
    Calls Tryd.prog 3 #[.int .i64 a, .int .i64 u] w fun e w' => e = .returned (.bool true) ∧ Below w.heap.size w w' := by
  by_cases h1 : a < -1000000000000000
  · go_enter Tryd.func3, Tryd.ntmps3
    go_wp2
    all_goals first | (exfalso; omega) | (go_ret; exact ⟨rfl, Below.refl _ _⟩)
  · have h2 : 1000000000000000 < a := by omega
    clear h
    go_enter Tryd.func3, Tryd.ntmps3
    go_wp2
    all_goals first | (exfalso; omega) | (go_ret; exact ⟨rfl, Below.refl _ _⟩)
theorem law_unit (a u : Int) (w : World) (h0 : -1000000000000000 ≤ a) (h1 : a ≤ 1000000000000000) (h6 : (u == 6) = false) (h3 : (u == 3) = false) (hz : (u == 0) = false) (hm3 : (u == -3) = false) (hm6 : (u == -6) = false) (hm8 : (u == -8) = false) :
    Calls Tryd.prog 3 #[.int .i64 a, .int .i64 u] w fun e w' => e = .returned (.bool true) ∧ Below w.heap.size w w' := by
  have n6 : (u != 6) = true := by rw [bne, h6]; rfl
  have n3 : (u != 3) = true := by rw [bne, h3]; rfl
  have nz : (u != 0) = true := by rw [bne, hz]; rfl
  have nm3 : (u != -3) = true := by rw [bne, hm3]; rfl
  have nm6 : (u != -6) = true := by rw [bne, hm6]; rfl
  have nm8 : (u != -8) = true := by rw [bne, hm8]; rfl
  clear h6 h3 hz hm3 hm6 hm8
  go_enter Tryd.func3, Tryd.ntmps3
  go_wp2
  all_goals first | (exfalso; omega) | (go_ret; exact ⟨rfl, Below.refl _ _⟩)

end Go.Proofs.YtkcbalikahmeiaaDoor.Aft
