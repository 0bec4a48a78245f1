/-
  zzDivMod, as printed, is the plain one.
-/
import Derived.Test.YtpgfhcobfaceeaaDoorDivPrint
import Derived.Test.YtpgfhcobfaceeaaDoorDivPure
namespace Go.Proofs.YtpgfhcobfaceeaaDoor.PFnBase58
open Go.RowKit Go.Proofs.YtpgfhcobfaceeaaDoorW.PrintWords Go.Proofs.YtpgfhcobfaceeaaDoorW.PrintLast Go.Proofs.YtpgfhcobfaceeaaDoorW.PrintMore Val

theorem w64 {x : Int} (h1 : -9223372036854775808 ≤ x) (h2 : x ≤ 9223372036854775807) : wrap64 x = x := by unfold wrap64; omega

theorem div_l1 (rest : Int) : ∀ l : List Int, Ev (fun k => base58_zzDivMod.l1 k l rest) (strip l, rest)
  | [] => Ev.step (fun k => by simp [base58_zzDivMod.l1]; rfl) (Ev.now _)
  | x :: l => by
    by_cases h : x = 0
    · rw [strip, if_pos h]
      refine Ev.step (fun k => ?_) (div_l1 rest l)
      simp only [base58_zzDivMod.l1]
      rw [if_pos (by simp), if_pos (by simp), if_pos (by simp [rd, h]), if_pos (by simp; omega)]
      rfl
    · rw [strip, if_neg h]
      refine Ev.step (fun k => ?_) (Ev.now (x :: l, rest))
      simp only [base58_zzDivMod.l1]
      rw [if_pos (by simp), if_pos (by simp), if_neg (by simp [rd, h])]

theorem div_l0 : ∀ (post pre : List Int) (rest n : Int), n = ((pre ++ post).length : Int) → (pre ++ post).length ≤ 1000 → 0 ≤ rest → rest < 58 → (∀ x ∈ post, 0 ≤ x ∧ x < 256) →
    Ev (fun k => base58_zzDivMod.l0 k (pre ++ post) rest n (pre.length : Int)) (strip (pre ++ (quot rest post).1), (quot rest post).2) := by
  intro post
  induction post with
  | nil =>
    intro pre rest n hn hl _ _ _
    refine Ev.step (fun k => ?_) (div_l1 rest (pre ++ []))
    simp only [base58_zzDivMod.l0]
    rw [if_neg (by simp at hn; omega)]
  | cons x post ih =>
    intro pre rest n hn hl h0 h1 h
    have hx := h x List.mem_cons_self
    have hlen : (pre ++ x :: post).length = pre.length + (post.length + 1) := by simp
    have hor : Go.bits .or .i64 (rest * 256) x = rest * 256 + x := bits_join .i64 63 (by decide) (fun n h0 h1 => by rw [IntKind.wrap_i64]; omega) 8 (rest * 256) x (by omega) (by omega) (by omega) (by omega) (by omega) (by omega)
    have hd : (rest * 256 + x) / 58 < 256 := by omega
    have := ih (pre ++ [(rest * 256 + x) / 58]) ((rest * 256 + x) % 58) n (by rw [hn]; simp) (by simp at hl ⊢; omega) (by omega) (by omega) (fun y hy => h y (List.mem_cons_of_mem _ hy))
    rw [quot]
    simp only [List.append_assoc, List.singleton_append, List.length_append, List.length_singleton] at this
    refine Ev.step (fun k => ?_) this
    simp only [base58_zzDivMod.l0]
    have hrd : rd (pre ++ x :: post) (pre.length : Int) = x := by simp [rd]
    rw [if_pos (by rw [hn, hlen]; omega), if_pos (by omega), if_pos (by rw [hlen]; omega), hrd, w64 (x := x) (by omega) (by omega), w64 (x := rest * 256) (by omega) (by omega), hor,
      Int.tdiv_eq_ediv_of_nonneg (by omega), Int.tmod_eq_emod_of_nonneg (by omega), w64 (x := (rest * 256 + x) / 58) (by omega) (by omega), w64 (x := (pre.length : Int) + 1) (by omega) (by omega),
      Int.emod_eq_of_lt (show 0 ≤ (rest * 256 + x) / 58 by omega) hd]
    congr 1
    simp

/-- What zzDivMod makes of bytes: a number by 58, without zeros ahead, and the rest. -/
theorem div_f (l : List Int) (hl : l.length ≤ 1000) (h : ∀ x ∈ l, 0 ≤ x ∧ x < 256) :
    ∃ k, base58_zzDivMod.f k l = some (strip (quot 0 l).1, (quot 0 l).2) := by
  have := div_l0 l [] 0 (l.length : Int) (by simp) (by simpa using hl) (by decide) (by decide) h
  exact this.rounds
end Go.Proofs.YtpgfhcobfaceeaaDoor.PFnBase58
