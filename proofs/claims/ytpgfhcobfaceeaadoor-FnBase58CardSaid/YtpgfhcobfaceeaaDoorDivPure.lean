/-
  zzDivMod in plain words: a number by 58, and the rest.
-/
import Derived.Test.YtpgfhcobfaceeaaDoorVal
import Derived.Lib.EndianBits
namespace Go.Proofs.YtpgfhcobfaceeaaDoor.PFnBase58
open Val

def quot : Int → List Int → List Int × Int
  | rest, [] => ([], rest)
  | rest, x :: l => ((rest * 256 + x) / 58 :: (quot ((rest * 256 + x) % 58) l).1, (quot ((rest * 256 + x) % 58) l).2)
def strip : List Int → List Int
  | [] => []
  | x :: l => if x = 0 then strip l else x :: l

theorem quot_facts : ∀ (l : List Int) (rest : Int), 0 ≤ rest → rest < 58 → (∀ x ∈ l, 0 ≤ x ∧ x < 256) →
    val 256 (quot rest l).1 * 58 + (quot rest l).2 = rest * 256 ^ l.length + val 256 l ∧ (quot rest l).1.length = l.length ∧ (∀ x ∈ (quot rest l).1, 0 ≤ x ∧ x < 256) ∧ 0 ≤ (quot rest l).2 ∧ (quot rest l).2 < 58 := by
  intro l
  induction l with
  | nil => intro rest h0 h1 _; simp [quot, val]; omega
  | cons x l ih =>
    intro rest h0 h1 h
    have hx := h x List.mem_cons_self
    obtain ⟨a, b, c, d, e⟩ := ih ((rest * 256 + x) % 58) (by omega) (by omega) (fun y hy => h y (List.mem_cons_of_mem _ hy))
    rw [quot]
    refine ⟨?_, by simp [b], ?_, d, e⟩
    · simp only
      rw [val_cons, val_cons, b, List.length_cons, Int.pow_succ]
      have h1 := Int.emod_add_mul_ediv (rest * 256 + x) 58
      have h2 := congrArg (· * (256 : Int) ^ l.length) h1
      simp only [Int.add_mul] at h2
      have h3 : (rest * 256 + x) / 58 * 256 ^ l.length * 58 = 58 * ((rest * 256 + x) / 58) * 256 ^ l.length := by rw [Int.mul_comm 58, Int.mul_assoc, Int.mul_assoc, Int.mul_comm 58]
      have h4 : rest * (256 ^ l.length * 256) = rest * 256 * 256 ^ l.length := by rw [Int.mul_assoc, Int.mul_comm 256]
      rw [Int.add_mul]
      omega
    · intro y hy
      rcases List.mem_cons.1 hy with g | g
      · omega
      · exact c y g

theorem strip_facts : ∀ l : List Int, val 256 (strip l) = val 256 l ∧ Lead (strip l) ∧ (∀ x ∈ strip l, x ∈ l) ∧ (strip l).length ≤ l.length
  | [] => ⟨rfl, lead_nil, by simp [strip], Nat.le_refl _⟩
  | x :: l => by
    obtain ⟨a, b, c, d⟩ := strip_facts l
    by_cases h : x = 0
    · rw [strip, if_pos h]
      refine ⟨by rw [a, val_cons, h]; simp, b, fun y hy => List.mem_cons_of_mem _ (c y hy), by simp; omega⟩
    · rw [strip, if_neg h]
      refine ⟨rfl, fun y r e => ?_, fun y hy => hy, Nat.le_refl _⟩
      injection e with e1 _
      exact e1 ▸ h

end Go.Proofs.YtpgfhcobfaceeaaDoor.PFnBase58
