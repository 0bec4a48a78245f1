/-
  The text of bytes in base 58, in plain words; and that it is read again.
-/
import Derived.Test.YtpgfhcobfaceeaaDoorEncJoin
namespace Go.Proofs.YtpgfhcobfaceeaaDoor.PFnBase58
open Val PFnUnBase58

def zeros : List Int → Nat
  | [] => 0
  | x :: l => if x = 0 then zeros l + 1 else 0
def alphaL : List Int := [49, 50, 51, 52, 53, 54, 55, 56, 57, 65, 66, 67, 68, 69, 70, 71, 72, 74, 75, 76, 77, 78, 80, 81, 82, 83, 84, 85, 86, 87, 88, 89, 90, 97, 98, 99, 100, 101, 102, 103, 104, 105, 106, 107, 109, 110, 111, 112, 113, 114, 115, 116, 117, 118, 119, 120, 121, 122]
def aOf (d : Int) : Int := alphaL.getD d.toNat 0
def txt (b : List Int) : List Int := List.replicate (zeros b) 49 ++ (rebased 256 58 (strip b)).map aOf

theorem aOf_all : (List.range 58).all (fun n => decide (dOf (aOf (n : Int)) = (n : Int) ∧ 0 ≤ aOf (n : Int) ∧ aOf (n : Int) < 256 ∧ (aOf (n : Int) = 49 → n = 0))) = true := by decide +kernel
theorem aOf_at (d : Int) (h0 : 0 ≤ d) (h1 : d < 58) : dOf (aOf d) = d ∧ 0 ≤ aOf d ∧ aOf d < 256 ∧ (aOf d = 49 → d = 0) := by
  have h := of_decide_eq_true (List.all_eq_true.1 aOf_all d.toNat (List.mem_range.2 (by omega)))
  rw [show ((d.toNat : Nat) : Int) = d from by omega] at h
  obtain ⟨a, b, c, e⟩ := h
  exact ⟨a, b, c, fun h => by have := e h; omega⟩

theorem zeros_strip : ∀ b : List Int, b = List.replicate (zeros b) 0 ++ strip b
  | [] => rfl
  | x :: l => by
    by_cases h : x = 0
    · rw [zeros, strip, if_pos h, if_pos h, List.replicate_succ, List.cons_append, ← zeros_strip l, h]
    · rw [zeros, strip, if_neg h, if_neg h]; rfl
theorem zeros_le (b : List Int) : zeros b ≤ b.length := by
  have := congrArg List.length (zeros_strip b)
  rw [List.length_append, List.length_replicate] at this
  omega

theorem rebased_zeros (fr tb : Int) (n : Nat) (l : List Int) : rebased fr tb (List.replicate n 0 ++ l) = rebased fr tb l := by
  induction n with
  | zero => rfl
  | succ n ih =>
    rw [List.replicate_succ, List.cons_append, ← ih]
    have e : addDig fr tb [] 0 = [] := by
      unfold addDig
      have : goF fr tb [] ([], 0) = ([], 0) := rfl
      rw [this]
      simp [digs_zero]
    unfold rebased
    rw [List.foldl_cons, e]

theorem rebased_strip (b : List Int) : rebased 256 58 b = rebased 256 58 (strip b) := by
  have h := rebased_zeros 256 58 (zeros b) (strip b)
  rwa [← zeros_strip b] at h

theorem strip_range {b : List Int} (h : ∀ x ∈ b, 0 ≤ x ∧ x < 256) : ∀ x ∈ strip b, 0 ≤ x ∧ x < 256 := fun x hx => h x ((strip_facts b).2.2.1 x hx)

theorem txt_range {b : List Int} (h : ∀ x ∈ b, 0 ≤ x ∧ x < 256) : ∀ x ∈ txt b, 0 ≤ x ∧ x < 256 := by
  intro x hx
  rcases List.mem_append.1 hx with g | g
  · obtain ⟨_, rfl⟩ := List.mem_replicate.1 g; decide
  · obtain ⟨d, hd, rfl⟩ := List.mem_map.1 g
    obtain ⟨_, _, c⟩ := rebased_facts 256 58 (by decide) (by decide) (by decide) (by decide) _ (strip b) rfl (strip_range h)
    obtain ⟨_, p, q, _⟩ := aOf_at d (c d hd).1 (c d hd).2
    exact ⟨p, q⟩

/-- What is written is read again. -/
theorem unB_txt (b : List Int) (h : ∀ x ∈ b, 0 ≤ x ∧ x < 256) : unB (txt b) = b := by
  obtain ⟨s1, s2, s3, s4⟩ := strip_facts b
  have hr := strip_range h
  obtain ⟨a, b1, c⟩ := rebased_facts 256 58 (by decide) (by decide) (by decide) (by decide) _ (strip b) rfl hr
  have hback := rebased_back (strip b) hr s2
  obtain ⟨R, hR⟩ : ∃ R, R = rebased 256 58 (strip b) := ⟨_, rfl⟩
  have hv : valid (txt b) = true := by
    unfold valid txt
    rw [List.all_append, ← hR, Bool.and_eq_true]
    rw [← hR] at c
    refine ⟨?_, ?_⟩
    · rw [List.all_eq_true]
      intro x hx
      obtain ⟨_, rfl⟩ := List.mem_replicate.1 hx
      decide
    · rw [List.all_eq_true]
      intro x hx
      obtain ⟨d, hd, rfl⟩ := List.mem_map.1 hx
      have hdr := c d hd
      rw [(aOf_at d hdr.1 hdr.2).1]
      simp
      omega
  have hm : (txt b).map dOf = List.replicate (zeros b) 0 ++ R := by
    unfold txt
    rw [List.map_append, List.map_replicate, ← hR, List.map_map]
    rw [← hR] at c
    congr 1
    have e : ∀ d ∈ R, (dOf ∘ aOf) d = d := fun d hd => (aOf_at d (c d hd).1 (c d hd).2).1
    rw [List.map_congr_left e]; simp
  have ho : ones (txt b) = zeros b := by
    unfold ones txt
    rw [← hR]
    rw [← hR] at c b1
    rw [List.takeWhile_append_of_pos (by intro x hx; obtain ⟨_, rfl⟩ := List.mem_replicate.1 hx; rfl), List.length_append, List.length_replicate]
    rcases R with _ | ⟨d, R'⟩
    · simp
    · have hd := c d List.mem_cons_self
      have h0 := b1 d R' rfl
      have hne : ¬ aOf d = 49 := fun h => h0 ((aOf_at d hd.1 hd.2).2.2.2 h)
      simp [hne]
  unfold unB
  rw [if_pos hv, hm, ho, rebased_zeros, hR, hback]
  exact (zeros_strip b).symm

/-- What Encode puts together, turned round. -/
theorem enc_txt (k : Nat) (b : List Int) (h : ∀ x ∈ b, 0 ≤ x ∧ x < 256) (hk : val 256 (strip b) < 58 ^ k) : ((enc k (strip b)).map aOf ++ List.replicate (zeros b) 49).reverse = txt b := by
  rw [List.reverse_append, List.reverse_replicate, ← List.map_reverse, enc_rebased k (strip b) (strip_facts b).2.1 (strip_range h) hk]
  rfl
theorem txt_twelve : txt [0, 1] = [49, 50] := by decide +kernel
end Go.Proofs.YtpgfhcobfaceeaaDoor.PFnBase58
