/-
  The law FnAdded, at all inputs.
-/
import Derived.Test.YthmfbkmdhnfbnaaAddedMain
namespace Go.Proofs.Ythmfbkmdhnfbnaa.BloomW
open Go.RowKit Go.Proofs.Ythmfbkmdhnfbnaa.Hand Go.Proofs.YthmfbkmdhnfbnaaW.PrintWords Go.Proofs.YthmfbkmdhnfbnaaW.PrintLast Go.Proofs.YthmfbkmdhnfbnaaW.PrintMore Mur Blo

theorem law_calls (A : Option Addr) (c : Nat) (D : List Int) (fu tw fl : Int) (AI : Option Addr) (cI : Nat) (xs : List (List Int)) (Ao : Option Addr) (co : Nat) (lo : List Int) (w : World) (hfu : 0 ≤ fu)
    (hD : Kd.C (Kd.int .u8) w A D.length D) (hDc : D.length ≤ c) (hDr : ∀ x ∈ D, 0 ≤ x ∧ x < 256) (hI : Kd.C (Kd.slice 5 (Kd.int .u8)) w AI xs.length xs) (hIc : xs.length ≤ cI) (hx2 : ∀ x ∈ xs, ∀ y ∈ x, 0 ≤ y ∧ y < 256)
    (hO : Kd.C (Kd.int .u8) w Ao lo.length lo) (hOc : lo.length ≤ co) (hor : ∀ y ∈ lo, 0 ≤ y ∧ y < 256) :
    Calls Try.prog 4 #[.agg #[.slice A D.length c, .int .u32 fu, .int .u32 tw, .int .i64 fl], .slice AI xs.length cI, .slice Ao lo.length co] w fun e w' => e = .returned (.bool true) ∧ Below w.heap.size w w' := by
  have hxl : xs.length ≤ 9223372036854775807 := hI.2.1
  obtain ⟨k2, b2, e2, g2⟩ := zz_is xs hxl
  obtain ⟨k5, e5⟩ := small_is xs hxl
  obtain ⟨k6, e6⟩ := small_is [lo] (by simp)
  have H1 : ∀ w1, Below w.heap.size w w1 → Calls Try.prog 10 #[.agg #[.slice A D.length c, .int .u32 fu, .int .u32 tw, .int .i64 fl]] w1 fun e w' => e = .returned (.bool (decide (D.length ≤ 2147483647))) ∧ Below w1.heap.size w1 w' := fun w1 hw => PFnAdded.laws_zzFits1.calls A c D fu tw fl _ w1 (Kd.C_below hD hw) hDc (zz1_f D fu tw fl)
  have H2 : ∀ w1, Below w.heap.size w w1 → Calls Try.prog 11 #[.slice AI xs.length cI] w1 fun e w' => e = .returned (.bool b2) ∧ Below w1.heap.size w1 w' := fun w1 hw => (PFnAdded.laws_zzFits2.calls k2 AI cI xs b2 w1 (Kd.C_below hI hw) hIc e2).mono fun e w' ⟨a, b⟩ => ⟨a, b.below⟩
  have H4 : ∀ w1, Below w.heap.size w w1 → Calls Try.prog 12 #[.agg #[.slice A D.length c, .int .u32 fu, .int .u32 tw, .int .i64 fl]] w1 fun e w' => e = .returned (.bool (isB D.length fu fl)) ∧ Below w1.heap.size w1 w' := fun w1 hw => PFnAdded.spec_IsBloom.calls A c D fu tw fl _ w1 (Kd.C_below hD hw) hDc (isB_f D fu tw fl)
  have H5 : ∀ w1, Below w.heap.size w w1 → Calls Try.prog 7 #[.slice AI xs.length cI] w1 fun e w' => e = .returned (.bool (allTo 60 xs && decide (xs.length ≤ 20))) ∧ Below w1.heap.size w1 w' := fun w1 hw => (PFnAdded.spec_IsSmall.calls k5 AI cI xs _ w1 (Kd.C_below hI hw) hIc e5).mono fun e w' ⟨a, b⟩ => ⟨a, b.below⟩
  have H6 : ∀ w1 : World, Below w.heap.size w w1 → Calls Try.prog 7 #[.slice (some ⟨w1.heap.size, 0, none⟩) 1 1] (w1.alloc (.cells #[.slice Ao lo.length co] 23)) fun e w' => e = .returned (.bool (allTo 60 [lo] && decide ([lo].length ≤ 20))) ∧ Below w1.heap.size w1 w' := fun w1 hw =>
    (PFnAdded.spec_IsSmall.calls k6 _ 1 [lo] _ _ (PFnMurmur.row_one w1 Ao co lo 23 (Kd.C_below hO hw) hOc) (Nat.le_refl _) e6).mono fun e w' ⟨a, b⟩ => ⟨a, below_step (below_alloc (Below.refl _ _) _) b.below⟩
  by_cases hall : decide (D.length ≤ 2147483647) = true ∧ b2 = true ∧ lo.length ≤ 2147483647 ∧ isB D.length fu fl = true ∧ (allTo 60 xs && decide (xs.length ≤ 20)) = true ∧ (allTo 60 [lo] && decide ([lo].length ≤ 20)) = true
  · obtain ⟨a1, a2, a3, a4, a5, a6⟩ := hall
    rw [a1] at H1
    rw [a2] at H2
    rw [a4] at H4
    rw [a5] at H5
    rw [a6] at H6
    rw [Bool.and_eq_true] at a5 a6
    have hx1 : ∀ x ∈ xs, x.length ≤ 60 := fun x hx => of_decide_eq_true (List.all_eq_true.1 a5.1 x hx)
    have hx20 := of_decide_eq_true a5.2
    have hol : lo.length ≤ 60 := of_decide_eq_true (List.all_eq_true.1 a6.1 lo (by simp))
    obtain ⟨kf, ef⟩ := fits_is xs hxl (by omega)
    have hft : allTo 100 xs = true := List.all_eq_true.2 fun x hx => decide_eq_true (by have := hx1 x hx; omega)
    rw [hft] at ef
    obtain ⟨c1, c2, c3, c4, c5, c6⟩ := of_decide_eq_true a4
    obtain ⟨m, rfl⟩ := Int.eq_ofNat_of_zero_le hfu
    exact law_main A c D m tw fl AI cI xs Ao co lo w hD hDc hI hIc hO hOc hDr hx2 hor c1 c2 (by omega) c5 c6 hx1 hx20 hol kf ef H1 H2 H4 H5 H6
  · exact law_stop A c D fu tw fl AI cI xs Ao co lo w _ _ _ _ _ H1 H2 H4 H5 H6 hall
end Go.Proofs.Ythmfbkmdhnfbnaa.BloomW
