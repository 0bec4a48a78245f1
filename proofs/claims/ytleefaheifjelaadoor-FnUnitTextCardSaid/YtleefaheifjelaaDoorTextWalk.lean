import Derived.Test.YtleefaheifjelaaDoorRows
import Derived.Test.YtleefaheifjelaaDoorDecPrint
import Derived.Shelf.Strconv.Itoa4
import Derived.Shelf.Lay
import Derived.Ground.NamesProg
import Derived.WalkKit
import Derived.WalkLawsBesides
import Derived.BigGuardPart
import Derived.Lib.Hide
import Derived.WalkSmall
namespace Go.Proofs.YtleefaheifjelaaDoor
open Go.RowKit Go.Shelf

shelf_lay LaysM.n173 Nm 173 at Tryd as lays173

/-- The numeral of a number. -/
def num (n : Int) : ByteArray := ⟨(Lib.itoa n).toArray⟩

theorem spec_near (n : Int) (h0 : -20 ≤ n) (h1 : n ≤ 20) : PFnUnitText.spec_Decimal.f 12 n 0 = some (num n) ∧ (num n).size ≤ 3 := by
  have H : ∀ m : Fin 41, PFnUnitText.spec_Decimal.f 12 ((m.val : Int) - 20) 0 = some (num ((m.val : Int) - 20)) ∧ (num ((m.val : Int) - 20)).size ≤ 3 := by decide +kernel
  have := H ⟨(n + 20).toNat, by omega⟩
  have e : (((n + 20).toNat : Nat) : Int) - 20 = n := by omega
  simpa only [e] using this

theorem decimal_calls (n : Int) (h0 : -20 ≤ n) (h1 : n ≤ 20) (w : World) :
    Calls Tryd.prog 7 #[.int .i64 n, .int .i64 0] w fun e w' => e = .returned (.string (num n)) ∧ Below w.heap.size w w' := by
  have h := (spec_near n h0 h1).1
  unfold PFnUnitText.spec_Decimal.f at h
  by_cases c : n < 0
  · rw [if_pos c, decide_eq_true c] at h
    exact PFnUnitText.spec_Decimal.calls_neg 12 n 0 c _ w h
  · rw [if_neg c, decide_eq_false c] at h
    exact PFnUnitText.spec_Decimal.calls_pos 12 n 0 (by omega) _ w h

theorem format_calls (n : Int) (h0 : -20 ≤ n) (h1 : n ≤ 20) (w : World) (htab : Lib.TabIs Tryd.prog w "internal/strconv.uint64pow10" .u64 Lib.pow10Tab) :
    Calls Tryd.prog 12 #[.int .i64 n, .int .i64 10] w fun e w' => e = .returned (.string (num n)) ∧ Below w.heap.size w w' := by
  refine (Any.strconv_FormatInt_10 lays173 n (by omega) (by omega) w htab).mono ?_
  rintro e w' ⟨he, k, os, rfl⟩
  refine ⟨he, (below_drewN (Below.refl _ w) k).trans ⟨rfl, rfl, rfl, ?_, fun j hj => ?_⟩⟩
  · simp [Sort.grow]
  · exact Array.getElem?_append_left hj

/-- A unit that has no name of its own. -/
structure Far (n : Int) : Prop where
  lo : -20 ≤ n
  hi : n ≤ 20
  a : n ≠ 6
  b : n ≠ 3
  c : n ≠ 0
  d : n ≠ -3
  e : n ≠ -6
  f : n ≠ -8

def told (n : Int) : ByteArray := (⟨#[49, 101]⟩ ++ num n) ++ ⟨#[32, 66, 84, 67]⟩

theorem string_calls (n : Int) (h : Far n) (w : World) (htab : Lib.TabIs Tryd.prog w "internal/strconv.uint64pow10" .u64 Lib.pow10Tab) :
    Calls Tryd.prog 10 #[.int .i64 n] w fun e w' => e = .returned (.string (told n)) ∧ Below w.heap.size w w' := by
  obtain ⟨h0, h1, ha, hb, hc, hd, he, hf⟩ := h
  have P := Lib.hid (format_calls n h0 h1 w htab)
  have hs := (spec_near n h0 h1).2
  clear htab
  go_enter Tryd.func10, Tryd.ntmps10
  go_wp2_with (first | (go_at_call 12; refine P.out.mono ?_; rintro e w' ⟨rfl, bel⟩) | fail)
  go_ret
  exact ⟨rfl, bel⟩

theorem text_calls (n : Int) (h : Far n) (w : World) (htab : Lib.TabIs Tryd.prog w "internal/strconv.uint64pow10" .u64 Lib.pow10Tab) :
    Calls Tryd.prog 6 #[.int .i64 n] w fun e w' => e = .returned (.string (told n)) ∧ Below w.heap.size w w' := by
  have P := Lib.hid (string_calls n h w htab)
  clear htab h
  go_enter Tryd.func6, Tryd.ntmps6
  go_wp2_with (first | (go_at_call 10; refine P.out.mono ?_; rintro e w' ⟨rfl, bel⟩) | fail)
  go_ret
  exact ⟨rfl, bel⟩

theorem law_text (n : Int) (w : World) (htab : Lib.TabIs Tryd.prog w "internal/strconv.uint64pow10" .u64 Lib.pow10Tab) :
    Calls Tryd.prog 4 #[.int .i64 n] w fun e w' => e = .returned (.bool true) ∧ Below w.heap.size w w' := by
  by_cases hF : Far n
  · have P := Lib.hid (text_calls n hF w htab)
    have Q := Lib.hid (fun w => decimal_calls n hF.lo hF.hi w)
    have hs := (spec_near n hF.lo hF.hi).2
    obtain ⟨h0, h1, ha, hb, hc, hd, he, hf⟩ := hF
    clear htab
    go_enter Tryd.func4, Tryd.ntmps4
    go_wp2_with (first | (go_at_call 6; refine P.out.mono ?_; rintro e w' ⟨rfl, bel⟩) | (go_at_call 7; refine (Q.out _).mono ?_; rintro e w'' ⟨rfl, bel2⟩) | fail)
    go_ret
    exact ⟨by show Ending.returned (.bool ((told n).toList == (told n).toList)) = _; rw [beq_self_eq_true], bel.trans (bel2.mono bel.size)⟩
  · have hF' : n < -20 ∨ 20 < n ∨ n = 6 ∨ n = 3 ∨ n = 0 ∨ n = -3 ∨ n = -6 ∨ n = -8 := by
      by_cases a1 : n < -20; · exact .inl a1
      by_cases a2 : 20 < n; · exact .inr (.inl a2)
      by_cases a3 : n = 6; · simp [a3]
      by_cases a4 : n = 3; · simp [a4]
      by_cases a5 : n = 0; · simp [a5]
      by_cases a6 : n = -3; · simp [a6]
      by_cases a7 : n = -6; · simp [a7]
      by_cases a8 : n = -8; · simp [a8]
      exact absurd ⟨by omega, by omega, a3, a4, a5, a6, a7, a8⟩ hF
    clear hF htab
    rcases hF' with h | h | rfl | rfl | rfl | rfl | rfl | rfl
    all_goals
      go_enter Tryd.func4, Tryd.ntmps4
      go_wp2
      all_goals first | (exfalso; omega) | (go_ret; exact ⟨rfl, Below.refl _ _⟩)
end Go.Proofs.YtleefaheifjelaaDoor
