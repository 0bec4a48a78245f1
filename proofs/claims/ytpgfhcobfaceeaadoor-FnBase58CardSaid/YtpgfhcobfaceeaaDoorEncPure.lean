/-
  The digits that Encode takes, one by one, in plain words.
-/
import Derived.Test.YtpgfhcobfaceeaaDoorDivPure
namespace Go.Proofs.YtpgfhcobfaceeaaDoor.PFnBase58
open Val

def enc : Nat → List Int → List Int
  | 0, _ => []
  | k + 1, x => if x = [] then [] else (quot 0 x).2 :: enc k (strip (quot 0 x).1)

theorem lead_zero {x : List Int} (hl : Lead x) (hr : ∀ y ∈ x, 0 ≤ y ∧ y < 256) (h : val 256 x < 1) : x = [] := by
  by_cases hn : x = []
  · exact hn
  · have h1 := lead_low (by decide) hl hr hn
    have h2 : (0 : Int) < 256 ^ (x.length - 1) := Int.pow_pos (by decide)
    omega

theorem enc_facts : ∀ (k : Nat) (x : List Int), Lead x → (∀ y ∈ x, 0 ≤ y ∧ y < 256) → val 256 x < 58 ^ k →
    val 58 (enc k x).reverse = val 256 x ∧ Lead (enc k x).reverse ∧ ∀ y ∈ (enc k x).reverse, 0 ≤ y ∧ y < 58 := by
  intro k
  induction k with
  | zero =>
    intro x hl hr h
    obtain rfl := lead_zero hl hr (by simpa using h)
    exact ⟨rfl, lead_nil, by simp [enc]⟩
  | succ k ih =>
    intro x hl hr h
    rw [enc]
    by_cases hn : x = []
    · rw [if_pos hn]
      subst hn
      exact ⟨rfl, lead_nil, by simp⟩
    · rw [if_neg hn]
      obtain ⟨a, b, c, d, e⟩ := quot_facts x 0 (by decide) (by decide) hr
      obtain ⟨s1, s2, s3, s4⟩ := strip_facts (quot 0 x).1
      rw [Int.zero_mul, Int.zero_add, ← s1] at a
      have hx1 := lead_low (by decide) hl hr hn
      have hx2 : (0 : Int) < 256 ^ (x.length - 1) := Int.pow_pos (by decide)
      rw [Int.pow_succ] at h
      obtain ⟨r1, r2, r3⟩ := ih (strip (quot 0 x).1) s2 (fun y hy => c y (s3 y hy)) (by omega)
      rw [List.reverse_cons]
      refine ⟨by rw [val_snoc, r1]; exact a, ?_, ?_⟩
      · intro y r hy
        rcases hE : (enc k (strip (quot 0 x).1)).reverse with _ | ⟨z, t⟩
        · rw [hE] at hy r1
          rw [List.nil_append] at hy
          injection hy with h1 _
          have : val 58 [] = 0 := rfl
          omega
        · rw [hE, List.cons_append] at hy
          injection hy with h1 _
          exact h1 ▸ r2 z t hE
      · intro y hy
        rcases List.mem_append.1 hy with g | g
        · exact r3 y g
        · obtain rfl := List.mem_singleton.1 g
          exact ⟨d, e⟩
end Go.Proofs.YtpgfhcobfaceeaaDoor.PFnBase58
