/-
  Bytes as groups of five bits, and back, in plain words.
-/
import Derived.Test.YthkijnfpllbdnaaGroupsPure
namespace Go.Proofs.Ythkijnfpllbdnaa.Grp

def st0 : St := ⟨[], 0, 0⟩
theorem is_st0 (tb : Nat) (h : 1 ≤ tb) : Is tb st0 0 0 := ⟨by simp [st0], by simp [st0], by simp [st0], by simp [st0]; omega, by simp [st0, val], by simp [st0]⟩
def up (b : List Int) : St := conv 8 5 b st0
/-- The groups, filled up. -/
def groups (b : List Int) : List Int := if 0 < (up b).F then (up b).R ++ [(up b).N * 2 ^ (5 - (up b).F) % 256] else (up b).R

theorem groups_facts (b : List Int) (hr : ∀ x ∈ b, 0 ≤ x ∧ x < 256) :
    (∀ x ∈ groups b, 0 ≤ x ∧ x < 32) ∧ val 32 (groups b) = val 256 b * 2 ^ (5 * (groups b).length - 8 * b.length) ∧ 8 * b.length ≤ 5 * (groups b).length ∧ 5 * (groups b).length < 8 * b.length + 5 := by
  have h := conv_is 8 5 (by decide) (by decide) b st0 0 0 (is_st0 5 (by decide)) hr
  simp only [Int.zero_mul, Int.zero_add, Nat.zero_add] at h
  have e8 : (2 : Int) ^ 8 = 256 := by decide
  have e5 : (2 : Int) ^ 5 = 32 := by decide
  rw [e8] at h
  have hu : conv 8 5 b st0 = up b := rfl
  rw [hu] at h
  unfold groups
  generalize up b = s at h
  obtain ⟨d, lo, hi, few, num, len⟩ := h
  rw [e5] at d num
  by_cases hF : 0 < s.F
  · rw [if_pos hF]
    have hp : (2 : Int) ^ s.F * 2 ^ (5 - s.F) = 32 := by rw [← Int.pow_add, show s.F + (5 - s.F) = 5 by omega]; exact e5
    have hq := pow_pos' (5 - s.F)
    have h1 : (s.N + 1) * 2 ^ (5 - s.F) ≤ 2 ^ s.F * 2 ^ (5 - s.F) := Int.mul_le_mul_of_nonneg_right (by omega) (by omega)
    rw [Int.add_mul, hp] at h1
    have h0 : 0 ≤ s.N * 2 ^ (5 - s.F) := Int.mul_nonneg lo (by omega)
    rw [Int.emod_eq_of_lt h0 (by omega)]
    have hl : (s.R ++ [s.N * 2 ^ (5 - s.F)]).length = s.R.length + 1 := by simp
    rw [hl]
    refine ⟨?_, ?_, by omega, by omega⟩
    · intro x hx
      rcases List.mem_append.1 hx with g | g
      · exact d x g
      · obtain rfl := List.mem_singleton.1 g
        omega
    · rw [val_snoc, ← num, show 5 * (s.R.length + 1) - 8 * b.length = 5 - s.F by omega, Int.add_mul, Int.mul_assoc, hp]
  · rw [if_neg hF]
    have hF0 : s.F = 0 := by omega
    rw [hF0] at hi num len
    refine ⟨d, ?_, by omega, by omega⟩
    rw [show 5 * s.R.length - 8 * b.length = 0 by omega]
    simp only [Int.pow_zero, Int.mul_one] at num hi ⊢
    omega

theorem back_facts (b : List Int) (hr : ∀ x ∈ b, 0 ≤ x ∧ x < 256) : (conv 5 8 (groups b) st0).R = b ∧ (conv 5 8 (groups b) st0).F ≤ 4 ∧ (conv 5 8 (groups b) st0).N = 0 := by
  obtain ⟨d, e, l1, l2⟩ := groups_facts b hr
  have h := conv_is 5 8 (by decide) (by decide) (groups b) st0 0 0 (is_st0 8 (by decide)) d
  simp only [Int.zero_mul, Int.zero_add, Nat.zero_add] at h
  have e8 : (2 : Int) ^ 8 = 256 := by decide
  have e5 : (2 : Int) ^ 5 = 32 := by decide
  rw [e5, e] at h
  generalize conv 5 8 (groups b) st0 = s at h
  obtain ⟨d2, lo, hi, few, num, len⟩ := h
  rw [e8] at d2 num
  have hl : s.R.length = b.length := by omega
  have hF : s.F = 5 * (groups b).length - 8 * b.length := by omega
  rw [← hF] at num
  have hq := pow_pos' s.F
  have hN : s.N = 0 := by
    have e1 := congrArg (· % (2 : Int) ^ s.F) num
    simp only [Int.add_comm _ s.N, Int.add_mul_emod_self_right, Int.mul_emod_left] at e1
    rwa [Int.emod_eq_of_lt lo hi] at e1
  have hv : val 256 s.R = val 256 b := by
    rw [hN, Int.add_zero] at num
    exact Int.eq_of_mul_eq_mul_right (by omega) num
  exact ⟨val_inj 256 (by decide) _ _ _ hl rfl d2 hr hv, by omega, hN⟩
end Go.Proofs.Ythkijnfpllbdnaa.Grp
