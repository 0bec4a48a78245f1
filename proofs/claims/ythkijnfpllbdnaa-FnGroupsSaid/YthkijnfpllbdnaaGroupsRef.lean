/-
  spec.Groups, as printed, is the plain groups.
-/
import Derived.Test.YthkijnfpllbdnaaPFnGroupsx1
import Derived.Test.YthkijnfpllbdnaaGroupsBack
namespace Go.Proofs.Ythkijnfpllbdnaa.PFnGroups
open Go.RowKit Go.Proofs.YthkijnfpllbdnaaW.PrintWords Go.Proofs.YthkijnfpllbdnaaW.PrintLast Go.Proofs.YthkijnfpllbdnaaW.PrintMore Grp

theorem w64 {x : Int} (h1 : -9223372036854775808 ≤ x) (h2 : x ≤ 9223372036854775807) : wrap64 x = x := by unfold wrap64; omega

/-- The first k bits of the bytes as a number (zeros behind them). -/
def pre (b : List Int) (k : Nat) : Int := val 256 b * 2 ^ (k - 8 * b.length) / 2 ^ (8 * b.length - k)

theorem dd {a b c : Int} (h : 0 ≤ b) : a / b / c = a / (b * c) := by
  rw [Int.ediv_ediv, if_neg (by omega), Int.sub_zero]

theorem pow256 (n : Nat) : (256 : Int) ^ n = 2 ^ (8 * n) := by
  rw [Int.pow_mul]
  rfl

theorem bit_at (b : List Int) (hr : ∀ x ∈ b, 0 ≤ x ∧ x < 256) (k : Nat) (hk : k < 8 * b.length) :
    (rd b ((k / 8 : Nat) : Int) / 2 ^ (7 - k % 8)) % 2 = (val 256 b / 2 ^ (8 * b.length - (k + 1))) % 2 := by
  obtain ⟨q, hq⟩ : ∃ q, q = k / 8 := ⟨_, rfl⟩
  obtain ⟨r, hr8⟩ : ∃ r, r = k % 8 := ⟨_, rfl⟩
  have hqL : q < b.length := by omega
  rw [← hq, ← hr8]
  obtain ⟨x, hx⟩ : ∃ x, x = rd b (q : Int) := ⟨_, rfl⟩
  rw [← hx]
  have hb : b = b.take q ++ [x] ++ b.drop (q + 1) := by
    have e : x = b[q] := by
      rw [hx, rd, Int.toNat_natCast, List.getD_eq_getElem?_getD, List.getElem?_eq_getElem hqL]
      rfl
    rw [e, List.take_append_getElem, List.take_append_drop]
  have hD := val_range 256 (by decide) _ (b.drop (q + 1)) rfl (fun y hy => hr y (List.mem_of_mem_drop hy))
  have hV : val 256 b = (val 256 (b.take q) * 256 + x) * 256 ^ (b.drop (q + 1)).length + val 256 (b.drop (q + 1)) := by
    have e := congrArg (val 256) hb
    rw [val_append, val_snoc] at e
    exact e
  have hDl : (b.drop (q + 1)).length = b.length - (q + 1) := List.length_drop
  rw [hV]
  generalize val 256 (b.take q) = t
  generalize val 256 (b.drop (q + 1)) = d at hD
  rw [hDl] at hD ⊢
  rw [pow256] at hD ⊢
  rw [show 8 * b.length - (k + 1) = 8 * (b.length - (q + 1)) + (7 - r) by omega, Int.pow_add, ← dd (Int.le_of_lt (pow_pos' _))]
  rw [Int.add_comm _ d, Int.add_mul_ediv_right _ _ (Int.ne_of_gt (pow_pos' _)), Int.ediv_eq_zero_of_lt hD.1 hD.2, Int.zero_add]
  have e256 : (256 : Int) = 2 ^ (r + 1) * 2 ^ (7 - r) := by rw [← Int.pow_add, show r + 1 + (7 - r) = 8 by omega]; rfl
  rw [show t * 256 + x = x + t * 2 ^ (r + 1) * 2 ^ (7 - r) by rw [Int.mul_assoc, ← e256, Int.add_comm], Int.add_mul_ediv_right _ _ (Int.ne_of_gt (pow_pos' _)), Int.pow_succ, ← Int.mul_assoc, Int.add_mul_emod_self_right]

/-- One bit more. -/
theorem pre_in (b : List Int) (hr : ∀ x ∈ b, 0 ≤ x ∧ x < 256) (k : Nat) (hk : k < 8 * b.length) : pre b (k + 1) = pre b k * 2 + (rd b ((k / 8 : Nat) : Int) / 2 ^ (7 - k % 8)) % 2 := by
  rw [bit_at b hr k hk]
  unfold pre
  rw [show k + 1 - 8 * b.length = 0 by omega, show k - 8 * b.length = 0 by omega, Int.pow_zero, Int.mul_one, show 8 * b.length - k = (8 * b.length - (k + 1)) + 1 by omega, Int.pow_succ, ← dd (Int.le_of_lt (pow_pos' _))]
  omega
theorem pre_out (b : List Int) (k : Nat) (hk : 8 * b.length ≤ k) : pre b (k + 1) = pre b k * 2 := by
  unfold pre
  rw [show 8 * b.length - (k + 1) = 0 by omega, show 8 * b.length - k = 0 by omega, Int.pow_zero, Int.ediv_one, Int.ediv_one, show k + 1 - 8 * b.length = (k - 8 * b.length) + 1 by omega, Int.pow_succ, Int.mul_assoc]
theorem pre_end (b : List Int) (k : Nat) (hk : 8 * b.length ≤ k) : pre b k = val 256 b * 2 ^ (k - 8 * b.length) := by
  unfold pre
  rw [show 8 * b.length - k = 0 by omega, Int.pow_zero, Int.ediv_one]
theorem pre_zero (b : List Int) (hr : ∀ x ∈ b, 0 ≤ x ∧ x < 256) : pre b 0 = 0 := by
  unfold pre
  have h := val_range 256 (by decide) _ b rfl hr
  rw [pow256] at h
  rw [Nat.zero_sub, Int.pow_zero, Int.mul_one, Nat.sub_zero]
  exact Int.ediv_eq_zero_of_lt h.1 h.2

section
variable (b : List Int) (hl : b.length ≤ 200) (hr : ∀ x ∈ b, 0 ≤ x ∧ x < 256) (res : List Int)
include hl hr

theorem grp_l1 (out : List Int) (i : Nat) (hi : i ≤ 1600) (ho : out.length ≤ 1000) : ∀ (m k : Nat) (g : Int), k + m = i + 5 → i ≤ k → 0 ≤ g → g < 2 ^ (k - i) → val 32 out * 2 ^ (k - i) + g = pre b k →
    (∀ g', 0 ≤ g' → g' < 32 → val 32 out * 32 + g' = pre b (i + 5) → Ev (fun j => spec_Groups.l0 j b (out ++ [g']) ((i + 5 : Nat) : Int)) res) →
    Ev (fun j => spec_Groups.l1 j b out (i : Int) g (k : Int)) res := by
  intro m
  induction m with
  | zero =>
    intro k g hk hik h0 h1 hv h
    obtain rfl : k = i + 5 := by omega
    rw [show i + 5 - i = 5 by omega] at h1 hv
    refine Ev.step (fun j => ?_) (h g h0 h1 hv)
    simp only [spec_Groups.l1]
    rw [w64 (x := (i : Int) + 5) (by omega) (by omega), if_neg (by omega), if_pos (by omega)]
    rfl
  | succ m ih =>
    intro k g hk hik h0 h1 hv h
    have hg16 : g < 16 := by
      have h2 : (2 : Int) ^ (k - i) ≤ 2 ^ 4 := by
        have := Nat.pow_le_pow_right (show 0 < 2 by decide) (show k - i ≤ 4 by omega)
        exact_mod_cast this
      have h3 : (2 : Int) ^ 4 = 16 := by decide
      omega
    have e2 : g * 2 % 256 = g * 2 := by omega
    have hp : (2 : Int) ^ (k + 1 - i) = 2 ^ (k - i) * 2 := by rw [show k + 1 - i = (k - i) + 1 by omega, Int.pow_succ]
    by_cases hin : k < 8 * b.length
    · obtain ⟨t, ht⟩ : ∃ t, t = (rd b ((k / 8 : Nat) : Int) / 2 ^ (7 - k % 8)) % 2 := ⟨_, rfl⟩
      have ht0 : 0 ≤ t ∧ t < 2 := by rw [ht]; omega
      have hx : 0 ≤ rd b ((k / 8 : Nat) : Int) ∧ rd b ((k / 8 : Nat) : Int) < 256 := by
        have hq : k / 8 < b.length := by omega
        rw [rd, Int.toNat_natCast, List.getD_eq_getElem?_getD, List.getElem?_eq_getElem hq]
        exact hr _ (List.getElem_mem hq)
      refine Ev.step (fun j => ?_) (ih (k + 1) (g * 2 + t) (by omega) (by omega) (by omega) (by rw [hp]; omega) (by rw [hp, pre_in b hr k hin, ← ht, ← hv, Int.add_mul, Int.mul_assoc]; omega) h)
      simp only [spec_Groups.l1]
      have d1 : Int.tdiv (k : Int) 8 = ((k / 8 : Nat) : Int) := by rw [Int.tdiv_eq_ediv_of_nonneg (by omega)]; norm_cast
      have d2 : Int.tmod (k : Int) 8 = ((k % 8 : Nat) : Int) := by rw [Int.tmod_eq_emod_of_nonneg (by omega)]; norm_cast
      have m8 := Nat.mod_lt k (show 0 < 8 by decide)
      rw [d1, d2, w64 (x := (i : Int) + 5) (by omega) (by omega), w64 (x := 8 * (b.length : Int)) (by omega) (by omega), w64 (x := ((k / 8 : Nat) : Int)) (by omega) (by omega), w64 (x := 7 - ((k % 8 : Nat) : Int)) (by omega) (by omega), w64 (x := (k : Int) + 1) (by omega) (by omega)]
      rw [if_pos (by omega), if_pos (by omega), if_pos (by omega), if_pos (by omega), if_pos (by omega)]
      have hs : shr .u8 (rd b ((k / 8 : Nat) : Int)) (7 - ((k % 8 : Nat) : Int)) = rd b ((k / 8 : Nat) : Int) / 2 ^ (7 - k % 8) := by
        unfold shr
        rw [show (7 - ((k % 8 : Nat) : Int)).toNat = 7 - k % 8 by omega, Nat.min_eq_left (by simp [IntKind.bits]; omega)]
      have hsz0 : 0 ≤ rd b ((k / 8 : Nat) : Int) / 2 ^ (7 - k % 8) := Int.ediv_nonneg hx.1 (Int.le_of_lt (pow_pos' _))
      have hsz1 : rd b ((k / 8 : Nat) : Int) / 2 ^ (7 - k % 8) < 256 := Int.lt_of_le_of_lt (Int.ediv_le_self _ hx.1) hx.2
      have hand : Go.bits .and .u8 (rd b ((k / 8 : Nat) : Int) / 2 ^ (7 - k % 8)) 1 = t := by
        have := bits_mask .u8 8 (by decide) wraps_u8 1 (by decide) _ hsz0 hsz1
        rw [ht]
        exact this
      have hor : Go.bits .or .u8 (g * 2) t = g * 2 + t := bits_join .u8 8 (by decide) wraps_u8 1 (g * 2) t (by omega) (by omega) (by omega) ht0.1 (by omega) (by omega)
      rw [hs, hand, e2, hor]
      rfl
    · refine Ev.step (fun j => ?_) (ih (k + 1) (g * 2) (by omega) (by omega) (by omega) (by rw [hp]; omega) (by rw [hp, pre_out b k (by omega), ← hv, Int.add_mul, Int.mul_assoc]) h)
      simp only [spec_Groups.l1]
      rw [w64 (x := (i : Int) + 5) (by omega) (by omega), w64 (x := 8 * (b.length : Int)) (by omega) (by omega), w64 (x := (k : Int) + 1) (by omega) (by omega), if_pos (by omega), if_neg (by omega), e2]
      rfl

theorem grp_l0 : ∀ (m : Nat) (out : List Int), 8 * b.length + 5 ≤ 5 * out.length + m + 0 ∨ 8 * b.length ≤ 5 * out.length + m → 5 * out.length < 8 * b.length + 5 → (∀ x ∈ out, 0 ≤ x ∧ x < 32) → val 32 out = pre b (5 * out.length) →
    Ev (fun j => spec_Groups.l0 j b out ((5 * out.length : Nat) : Int)) (groups b) := by
  intro m
  induction m with
  | zero =>
    intro out hm h1 h2 h3
    obtain ⟨d, e, l1, l2⟩ := groups_facts b hr
    have hg : out = groups b := by
      refine val_inj 32 (by decide) _ _ _ rfl (by omega) h2 d ?_
      have hll : out.length = (groups b).length := by omega
      rw [h3, pre_end b _ (by omega), e, hll]
    refine Ev.step (fun j => ?_) (Ev.now (groups b))
    simp only [spec_Groups.l0]
    rw [w64 (x := 8 * (b.length : Int)) (by omega) (by omega), if_neg (by omega), hg]
  | succ m ih =>
    intro out hm h1 h2 h3
    by_cases hlt : 5 * out.length < 8 * b.length
    · refine Ev.step (fun j => ?_) (grp_l1 b hl hr (groups b) out (5 * out.length) (by omega) (by omega) 5 (5 * out.length) 0 rfl (Nat.le_refl _) (Int.le_refl _) (by simp) (by simp [h3]) ?_)
      · simp only [spec_Groups.l0]
        rw [w64 (x := 8 * (b.length : Int)) (by omega) (by omega), if_pos (by omega)]
      · intro g' hg0 hg1 hgv
        have hlen : (out ++ [g']).length = out.length + 1 := by simp
        have := ih (out ++ [g']) (by rw [hlen]; omega) (by rw [hlen]; omega) (fun x hx => by
          rcases List.mem_append.1 hx with q | q
          · exact h2 x q
          · obtain rfl := List.mem_singleton.1 q
            exact ⟨hg0, hg1⟩) (by rw [val_snoc, hlen, hgv, Nat.mul_add])
        rw [hlen, Nat.mul_add] at this
        exact this
    · obtain ⟨d, e, l1, l2⟩ := groups_facts b hr
      have hg : out = groups b := by
        refine val_inj 32 (by decide) _ _ _ rfl (by omega) h2 d ?_
        have hll : out.length = (groups b).length := by omega
        rw [h3, pre_end b _ (by omega), e, hll]
      refine Ev.step (fun j => ?_) (Ev.now (groups b))
      simp only [spec_Groups.l0]
      rw [w64 (x := 8 * (b.length : Int)) (by omega) (by omega), if_neg (by omega), hg]

theorem groups_f : ∃ k, spec_Groups.f k b = some (groups b) := by
  have h := grp_l0 b hl hr (8 * b.length + 5) [] (.inr (by omega)) (by simp) (by simp) (by simp [val, pre_zero b hr])
  exact h.rounds
end
end Go.Proofs.Ythkijnfpllbdnaa.PFnGroups
