/-
  The digits that Encode takes are the reference's.
-/
import Derived.Test.YtpgfhcobfaceeaaDoorEncPure
import Derived.Test.YtpgfhcobfaceeaaDoorBasePure
namespace Go.Proofs.YtpgfhcobfaceeaaDoor.PFnBase58
open Val

theorem enc_rebased (k : Nat) (x : List Int) (hl : Lead x) (hr : ∀ y ∈ x, 0 ≤ y ∧ y < 256) (h : val 256 x < 58 ^ k) : (enc k x).reverse = PFnUnBase58.rebased 256 58 x := by
  obtain ⟨a, b, c⟩ := enc_facts k x hl hr h
  obtain ⟨a', b', c'⟩ := PFnUnBase58.rebased_facts 256 58 (by decide) (by decide) (by decide) (by decide) _ x rfl hr
  exact canon (by decide) c c' b b' (a.trans a'.symm)
/-- Two digits of base 58 to a byte are enough. -/
theorem enough (x : List Int) (hr : ∀ y ∈ x, 0 ≤ y ∧ y < 256) : val 256 x < 58 ^ (2 * x.length) := by
  have h := (val_range 256 (by decide) _ x rfl hr).2
  have e : (58 : Int) ^ (2 * x.length) = 3364 ^ x.length := by rw [Int.pow_mul]; rfl
  have h2 : ∀ n : Nat, (256 : Int) ^ n ≤ 3364 ^ n := by
    intro n
    induction n with
    | zero => simp
    | succ n ih =>
      rw [Int.pow_succ, Int.pow_succ]
      have : (0 : Int) < 256 ^ n := Int.pow_pos (by decide)
      omega
  have := h2 x.length
  omega
end Go.Proofs.YtpgfhcobfaceeaaDoor.PFnBase58
