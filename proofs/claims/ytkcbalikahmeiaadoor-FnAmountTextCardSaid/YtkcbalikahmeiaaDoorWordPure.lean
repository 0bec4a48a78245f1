/-
  A double's word: its sign, its place and its digits.
-/
import Derived.Test.YtkcbalikahmeiaaDoorShortLaw
namespace Go.Proofs.YtkcbalikahmeiaaDoor.Aft
open Go.RowKit FlPlain Ieee

theorem word_eq (s : Bool) (x : Nat) : double.word s x = (if s then 9223372036854775808 else 0) + x := by
  unfold Format.word
  rw [sw]
  cases s <;> simp <;> omega
theorem and_top (x : Nat) (h : x < 4096) : Go.bits .and .i64 (x : Int) 2047 = ((x % 2048 : Nat) : Int) := by
  have e63 : (2 : Int) ^ 63 = 9223372036854775808 := by decide
  have hw : ∀ n : Int, 0 ≤ n → n < 2 ^ 63 → IntKind.i64.wrap n = n := fun n h0 h1 => IntWalk.i64_in n ⟨by omega, by rw [e63] at h1; omega⟩
  have := bits_mask .i64 63 (by decide) hw 11 (by decide) (x : Int) (by omega) (by rw [e63]; omega)
  rw [show ((2 : Int) ^ 11 - 1) = 2047 by decide, show ((2 : Int) ^ 11) = 2048 by decide] at this
  rw [this]
  omega
theorem and_low (x : Nat) (h : x < 18446744073709551616) : Go.bits .and .u64 (x : Int) 4503599627370495 = ((x % 4503599627370496 : Nat) : Int) := by
  have e64 : (2 : Int) ^ 64 = 18446744073709551616 := by decide
  have := bits_mask .u64 64 (by decide) (fun n h0 h1 => wrap_id h0 (by rw [e64] at h1; exact h1)) 52 (by decide) (x : Int) (by omega) (by rw [e64]; omega)
  rw [show ((2 : Int) ^ 52 - 1) = 4503599627370495 by decide, show ((2 : Int) ^ 52) = 4503599627370496 by decide] at this
  rw [this]
  omega
theorem or_top (x : Nat) (h : x < 4503599627370496) : Go.bits .or .u64 (x : Int) 4503599627370496 = ((x + 4503599627370496 : Nat) : Int) := by
  have h1 := bits_or_u64_nat x 4503599627370496 (by omega) (by decide)
  rw [show ((4503599627370496 : Nat) : Int) = 4503599627370496 from rfl] at h1
  rw [h1]
  congr 1
  have h2 := Nat.two_pow_add_eq_or_of_lt (i := 52) (b := x) h 1
  rw [show 2 ^ 52 * 1 = 4503599627370496 from rfl] at h2
  rw [Nat.or_comm, ← h2, Nat.add_comm]
/-- The parts of a double's word. -/
structure Parts (b t M mant : Nat) (s : Bool) : Prop where
  lt : b < 18446744073709551616
  g1 : ((b : Int) / 9223372036854775808 != 0) = s
  g2 : Go.bits .and .i64 ((b : Int) / 4503599627370496) 2047 = 1075 - (t : Int)
  g3 : Go.bits .and .u64 b 4503599627370495 = mant
  g4 : Go.bits .or .u64 mant 4503599627370496 = M
theorem parts_of (s : Bool) (t M : Nat) (ht : 1 ≤ t) (ht2 : t ≤ 1000) (h1 : 4503599627370496 ≤ M) (h2 : M < 9007199254740992) : Parts (double.word s ((1074 - t) * 2 ^ 52 + M)) t M (M - 4503599627370496) s := by
  obtain ⟨b, hb⟩ : ∃ b, b = double.word s ((1074 - t) * 2 ^ 52 + M) := ⟨_, rfl⟩
  rw [← hb]
  rw [word_eq, show 2 ^ 52 = 4503599627370496 from rfl] at hb
  obtain ⟨c, hc⟩ : ∃ c : Nat, c = if s then 9223372036854775808 else 0 := ⟨_, rfl⟩
  rw [← hc] at hb
  have hc2 : (s = true ∧ c = 9223372036854775808) ∨ (s = false ∧ c = 0) := by cases s <;> simp [hc]
  have hlt : b < 18446744073709551616 := by omega
  refine ⟨hlt, ?_, ?_, ?_, ?_⟩
  · rcases hc2 with ⟨rfl, hc3⟩ | ⟨rfl, hc3⟩
    · rw [bne_iff_ne]; omega
    · rw [bne_eq_false_iff_eq]; omega
  · have e : (b : Int) / 4503599627370496 = ((b / 4503599627370496 : Nat) : Int) := by omega
    rw [e, and_top _ (by omega)]
    omega
  · rw [and_low b hlt]
    omega
  · rw [or_top _ (by omega)]
    omega
end Go.Proofs.YtkcbalikahmeiaaDoor.Aft
