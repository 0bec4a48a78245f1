import Derived.Test.YtleefaheifjelaaDoorRows
import Derived.Test.YtleefaheifjelaaDoorDecPrint
import Derived.Shelf.Strconv.Itoa4
import Derived.Ground.NamesProg
import Derived.WalkKit
import Derived.WalkLawsBesides
import Derived.BigGuardPart
import Derived.Lib.Hide
import Derived.WalkSmall
namespace Go.Proofs.YtleefaheifjelaaDoor
open Go.RowKit Go.Shelf

def lays173_ren : Go.Shelf.Ren := ⟨fun | 173 => 12 | 246 => 14 | 283 => 16 | 284 => 17 | 285 => 18 | 286 => 19 | 129 => 21 | 317 => 20 | 318 => 22 | 319 => 23 | 320 => 24 | 337 => 25 | 338 => 26 | n => n, fun | 2 => 2 | 3 => 3 | 9 => 9 | 4 => 4 | 171 => 42 | 0 => 0 | 53 => 40 | 37 => 34 | 5 => 5 | 173 => 45 | 212 => 49 | 51 => 50 | 20 => 20 | 213 => 51 | 46 => 37 | 232 => 54 | 233 => 55 | n => n, fun | 17 => 4 | 18 => 5 | 19 => 6 | n => n⟩
theorem lays173 : Go.Proofs.LaysM.n173 Tryd.prog lays173_ren where
  mixed := by kernel_rfl
  f129 := Tryd.func21.trans (congrArg some (by kernel_rfl))
  f173 := Tryd.func12.trans (congrArg some (by kernel_rfl))
  f246 := Tryd.func14.trans (congrArg some (by kernel_rfl))
  f283 := Tryd.func16.trans (congrArg some (by kernel_rfl))
  f284 := Tryd.func17.trans (congrArg some (by kernel_rfl))
  f285 := Tryd.func18.trans (congrArg some (by kernel_rfl))
  f286 := Tryd.func19.trans (congrArg some (by kernel_rfl))
  f317 := Tryd.func20.trans (congrArg some (by kernel_rfl))
  f318 := Tryd.func22.trans (congrArg some (by kernel_rfl))
  f319 := Tryd.func23.trans (congrArg some (by kernel_rfl))
  f320 := Tryd.func24.trans (congrArg some (by kernel_rfl))
  f337 := Tryd.func25.trans (congrArg some (by kernel_rfl))
  f338 := Tryd.func26.trans (congrArg some (by kernel_rfl))
  t0 := Tryd.underlying0
  a0 := Tryd.isAgg0
  z0 := Tryd.sizeOf0
  v0 := Tryd.zeroValue0
  t2 := Tryd.underlying2
  a2 := Tryd.isAgg2
  z2 := Tryd.sizeOf2
  v2 := Tryd.zeroValue2
  t3 := Tryd.underlying3
  a3 := Tryd.isAgg3
  z3 := Tryd.sizeOf3
  v3 := Tryd.zeroValue3
  t4 := Tryd.underlying4
  a4 := Tryd.isAgg4
  z4 := Tryd.sizeOf4
  v4 := Tryd.zeroValue4
  t5 := Tryd.underlying5
  a5 := Tryd.isAgg5
  z5 := Tryd.sizeOf5
  v5 := Tryd.zeroValue5
  t9 := Tryd.underlying9
  a9 := Tryd.isAgg9
  z9 := Tryd.sizeOf9
  v9 := Tryd.zeroValue9
  t20 := Tryd.underlying20
  a20 := Tryd.isAgg20
  z20 := Tryd.sizeOf20
  v20 := Tryd.zeroValue20
  t37 := Tryd.underlying34
  a37 := Tryd.isAgg34
  z37 := Tryd.sizeOf34
  v37 := Tryd.zeroValue34
  t46 := Tryd.underlying37
  a46 := Tryd.isAgg37
  z46 := Tryd.sizeOf37
  v46 := Tryd.zeroValue37
  t51 := Tryd.underlying50
  a51 := Tryd.isAgg50
  z51 := Tryd.sizeOf50
  v51 := Tryd.zeroValue50
  t53 := Tryd.underlying40
  a53 := Tryd.isAgg40
  z53 := Tryd.sizeOf40
  v53 := Tryd.zeroValue40
  t171 := Tryd.underlying42
  a171 := Tryd.isAgg42
  z171 := Tryd.sizeOf42
  v171 := Tryd.zeroValue42
  t173 := Tryd.underlying45
  a173 := Tryd.isAgg45
  z173 := Tryd.sizeOf45
  v173 := Tryd.zeroValue45
  t212 := Tryd.underlying49
  a212 := Tryd.isAgg49
  z212 := Tryd.sizeOf49
  v212 := Tryd.zeroValue49
  t213 := Tryd.underlying51
  a213 := Tryd.isAgg51
  z213 := Tryd.sizeOf51
  t232 := Tryd.underlying54
  a232 := Tryd.isAgg54
  z232 := Tryd.sizeOf54
  v232 := Tryd.zeroValue54
  t233 := Tryd.underlying55
  a233 := Tryd.isAgg55
  z233 := Tryd.sizeOf55
  v233 := Tryd.zeroValue55
  g17 := by kernel_rfl
  g18 := by kernel_rfl
  g19 := by kernel_rfl
  i0 := by kernel_rfl
  i2 := by kernel_rfl
  i3 := by kernel_rfl
  i4 := by kernel_rfl
  i5 := by kernel_rfl
  i9 := by kernel_rfl
  i20 := by kernel_rfl
  i37 := by kernel_rfl
  i46 := by kernel_rfl
  i51 := by kernel_rfl
  i53 := by kernel_rfl
  i171 := by kernel_rfl
  i173 := by kernel_rfl
  i212 := by kernel_rfl
  i232 := by kernel_rfl
  i233 := by kernel_rfl
  m17 := by kernel_rfl
  m18 := by kernel_rfl
  m19 := by kernel_rfl

/-- The numeral of a number. -/
def num (n : Int) : ByteArray := ⟨(Lib.itoa n).toArray⟩

theorem spec_near (n : Int) (h0 : -20 ≤ n) (h1 : n ≤ 20) : PFnUnitText.spec_Decimal.f 12 n 0 = some (num n) ∧ (num n).size ≤ 3 := by
  have H : ∀ m : Fin 41, PFnUnitText.spec_Decimal.f 12 ((m.val : Int) - 20) 0 = some (num ((m.val : Int) - 20)) ∧ (num ((m.val : Int) - 20)).size ≤ 3 := by decide +kernel
  have := H ⟨(n + 20).toNat, by omega⟩
  have e : (((n + 20).toNat : Nat) : Int) - 20 = n := by omega
  simpa only [e] using this

theorem decimal_calls (n : Int) (h0 : -20 ≤ n) (h1 : n ≤ 20) (w : World) :
    Calls Tryd.prog 7 #[.int .i64 n, .int .i64 0] w fun e w' => e = .returned (.string (num n)) ∧ Below w.heap.size w w' := by
  have h := (spec_near n h0 h1).1
  unfold PFnUnitText.spec_Decimal.f at h
  by_cases c : n < 0
  · rw [if_pos c, decide_eq_true c] at h
    exact PFnUnitText.spec_Decimal.calls_neg 12 n 0 c _ w h
  · rw [if_neg c, decide_eq_false c] at h
    exact PFnUnitText.spec_Decimal.calls_pos 12 n 0 (by omega) _ w h

theorem format_calls (n : Int) (h0 : -20 ≤ n) (h1 : n ≤ 20) (w : World) (htab : Lib.TabIs Tryd.prog w "internal/strconv.uint64pow10" .u64 Lib.pow10Tab) :
    Calls Tryd.prog 12 #[.int .i64 n, .int .i64 10] w fun e w' => e = .returned (.string (num n)) ∧ Below w.heap.size w w' := by
  refine (Any.strconv_FormatInt_10 lays173 n (by omega) (by omega) w htab).mono ?_
  rintro e w' ⟨he, k, os, rfl⟩
  refine ⟨he, (below_drewN (Below.refl _ w) k).trans ⟨rfl, rfl, rfl, ?_, fun j hj => ?_⟩⟩
  · simp [Sort.grow]
  · exact Array.getElem?_append_left hj

/-- A unit that has no name of its own. -/
structure Far (n : Int) : Prop where
  lo : -20 ≤ n
  hi : n ≤ 20
  a : n ≠ 6
  b : n ≠ 3
  c : n ≠ 0
  d : n ≠ -3
  e : n ≠ -6
  f : n ≠ -8

def told (n : Int) : ByteArray := (⟨#[49, 101]⟩ ++ num n) ++ ⟨#[32, 66, 84, 67]⟩

theorem string_calls (n : Int) (h : Far n) (w : World) (htab : Lib.TabIs Tryd.prog w "internal/strconv.uint64pow10" .u64 Lib.pow10Tab) :
    Calls Tryd.prog 10 #[.int .i64 n] w fun e w' => e = .returned (.string (told n)) ∧ Below w.heap.size w w' := by
  obtain ⟨h0, h1, ha, hb, hc, hd, he, hf⟩ := h
  have P := Lib.hid (format_calls n h0 h1 w htab)
  have hs := (spec_near n h0 h1).2
  clear htab
  go_enter Tryd.func10, Tryd.ntmps10
  go_wp2_with (first | (go_at_call 12; refine P.out.mono ?_; rintro e w' ⟨rfl, bel⟩) | fail)
  go_ret
  exact ⟨rfl, bel⟩

theorem text_calls (n : Int) (h : Far n) (w : World) (htab : Lib.TabIs Tryd.prog w "internal/strconv.uint64pow10" .u64 Lib.pow10Tab) :
    Calls Tryd.prog 6 #[.int .i64 n] w fun e w' => e = .returned (.string (told n)) ∧ Below w.heap.size w w' := by
  have P := Lib.hid (string_calls n h w htab)
  clear htab h
  go_enter Tryd.func6, Tryd.ntmps6
  go_wp2_with (first | (go_at_call 10; refine P.out.mono ?_; rintro e w' ⟨rfl, bel⟩) | fail)
  go_ret
  exact ⟨rfl, bel⟩

theorem law_text (n : Int) (w : World) (htab : Lib.TabIs Tryd.prog w "internal/strconv.uint64pow10" .u64 Lib.pow10Tab) :
    Calls Tryd.prog 4 #[.int .i64 n] w fun e w' => e = .returned (.bool true) ∧ Below w.heap.size w w' := by
  by_cases hF : Far n
  · have P := Lib.hid (text_calls n hF w htab)
    have Q := Lib.hid (fun w => decimal_calls n hF.lo hF.hi w)
    have hs := (spec_near n hF.lo hF.hi).2
    obtain ⟨h0, h1, ha, hb, hc, hd, he, hf⟩ := hF
    clear htab
    go_enter Tryd.func4, Tryd.ntmps4
    go_wp2_with (first | (go_at_call 6; refine P.out.mono ?_; rintro e w' ⟨rfl, bel⟩) | (go_at_call 7; refine (Q.out _).mono ?_; rintro e w'' ⟨rfl, bel2⟩) | fail)
    go_ret
    exact ⟨by show Ending.returned (.bool ((told n).toList == (told n).toList)) = _; rw [beq_self_eq_true], bel.trans (bel2.mono bel.size)⟩
  · have hF' : n < -20 ∨ 20 < n ∨ n = 6 ∨ n = 3 ∨ n = 0 ∨ n = -3 ∨ n = -6 ∨ n = -8 := by
      by_cases a1 : n < -20; · exact .inl a1
      by_cases a2 : 20 < n; · exact .inr (.inl a2)
      by_cases a3 : n = 6; · simp [a3]
      by_cases a4 : n = 3; · simp [a4]
      by_cases a5 : n = 0; · simp [a5]
      by_cases a6 : n = -3; · simp [a6]
      by_cases a7 : n = -6; · simp [a7]
      by_cases a8 : n = -8; · simp [a8]
      exact absurd ⟨by omega, by omega, a3, a4, a5, a6, a7, a8⟩ hF
    clear hF htab
    rcases hF' with h | h | rfl | rfl | rfl | rfl | rfl | rfl
    all_goals
      go_enter Tryd.func4, Tryd.ntmps4
      go_wp2
      all_goals first | (exfalso; omega) | (go_ret; exact ⟨rfl, Below.refl _ _⟩)
end Go.Proofs.YtleefaheifjelaaDoor
