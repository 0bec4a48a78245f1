/-
  rebased, by the number that digits spell.
-/
import Derived.Test.YtpgfhcobfaceeaaDoorUnPure
import Derived.Test.YtpgfhcobfaceeaaDoorVal
namespace Go.Proofs.YtpgfhcobfaceeaaDoor.PFnUnBase58
open Val

theorem goF_val (fr tb : Int) (c : Int) : ∀ l : List Int, ∃ l', (goF fr tb l ([], c)).1 = l' ∧ l'.length = l.length ∧ (goF fr tb l ([], c)).2 * tb ^ l.length + val tb l' = val tb l * fr + c := by
  intro l
  induction l with
  | nil => exact ⟨[], rfl, rfl, by simp [goF, val]⟩
  | cons x l ih =>
    obtain ⟨l', e1, e2, e3⟩ := ih
    have e : goF fr tb (x :: l) ([], c) = stepF fr tb x (goF fr tb l ([], c)) := rfl
    rw [e]
    generalize goF fr tb l ([], c) = t at *
    refine ⟨_, rfl, by simp [stepF, e1, e2], ?_⟩
    unfold stepF
    simp only
    rw [e1, val_cons, val_cons, List.length_cons, Int.pow_succ, e2]
    have h1 := Int.emod_add_mul_ediv (t.2 + x * fr) tb
    have h2 := congrArg (· * tb ^ l.length) h1
    simp only [Int.add_mul] at h2
    have h3 : (t.2 + x * fr) / tb * (tb ^ l.length * tb) = tb * ((t.2 + x * fr) / tb) * tb ^ l.length := by
      rw [Int.mul_comm tb ((t.2 + x * fr) / tb), Int.mul_assoc, Int.mul_comm tb]
    have h4 : x * fr * tb ^ l.length = x * tb ^ l.length * fr := by rw [Int.mul_assoc, Int.mul_comm fr, ← Int.mul_assoc]
    rw [Int.add_mul]
    omega

theorem digs_val (tb : Nat) (h1 : 2 ≤ tb) : ∀ c : Nat, val tb (digs tb c) = c := by
  intro c
  induction c using Nat.strongRecOn with
  | _ c ih =>
    rcases Nat.eq_zero_or_pos c with h | h
    · subst h; rw [digs_zero]; rfl
    · rw [digs_pos tb c h1 h, val_snoc, ih _ (Nat.div_lt_self h h1)]
      have := Nat.div_add_mod c tb
      have e : ((c / tb : Nat) : Int) * (tb : Int) = ((tb * (c / tb) : Nat) : Int) := by rw [Nat.mul_comm]; norm_cast
      rw [e]
      omega

theorem digs_lead (tb : Nat) (h1 : 2 ≤ tb) : ∀ c : Nat, 0 < c → ∃ x r, digs tb c = x :: r ∧ x ≠ 0 := by
  intro c
  induction c using Nat.strongRecOn with
  | _ c ih =>
    intro h
    rw [digs_pos tb c h1 h]
    rcases Nat.eq_zero_or_pos (c / tb) with h2 | h2
    · refine ⟨((c % tb : Nat) : Int), [], by rw [h2, digs_zero]; rfl, ?_⟩
      have := Nat.div_add_mod c tb
      rw [h2, Nat.mul_zero, Nat.zero_add] at this
      omega
    · obtain ⟨x, r, e, hx⟩ := ih _ (Nat.div_lt_self h h1) h2
      exact ⟨x, r ++ [((c % tb : Nat) : Int)], by rw [e]; rfl, hx⟩

/-- One more digit of the old base: the number, no zero ahead. -/
theorem addDig_facts (fr tb : Int) (hfr0 : 1 ≤ fr) (hfr1 : fr ≤ 256) (hto : 2 ≤ tb) (hto2 : tb ≤ 256) (out : List Int) (d : Int) (ho : ∀ x ∈ out, 0 ≤ x ∧ x < tb) (hl : Lead out) (h0 : 0 ≤ d) (h1 : d ≤ 65536) :
    val tb (addDig fr tb out d) = val tb out * fr + d ∧ Lead (addDig fr tb out d) ∧ ∀ x ∈ addDig fr tb out d, 0 ≤ x ∧ x < tb := by
  obtain ⟨l', e1, e2, e3⟩ := goF_val fr tb d out
  obtain ⟨f1, f2, f3, f4⟩ := goF_facts fr tb (by omega) hfr1 hto out ([], d) (fun x hx => ⟨(ho x hx).1, Int.lt_of_lt_of_le (ho x hx).2 hto2⟩) (by simp) h0 h1
  rw [e1] at f1 f2
  obtain ⟨c, hc⟩ : ∃ c : Nat, (goF fr tb out ([], d)).2 = (c : Int) := ⟨(goF fr tb out ([], d)).2.toNat, by omega⟩
  have ht : (tb.toNat : Int) = tb := by omega
  have hd := digs_val tb.toNat (by omega) c
  have hdr := digs_range tb.toNat (by omega) c
  rw [ht] at hd
  unfold addDig
  rw [e1, hc, Int.toNat_natCast]
  rw [hc] at e3
  have hv : val tb (digs tb.toNat c ++ l') = val tb out * fr + d := by rw [val_append, hd, e2, e3]
  have hr : ∀ x ∈ digs tb.toNat c ++ l', 0 ≤ x ∧ x < tb := by
    intro x hx
    rcases List.mem_append.1 hx with g | g
    · have := hdr x g
      rw [ht] at this
      exact this
    · exact f2 x g
  refine ⟨hv, ?_, hr⟩
  rcases Nat.eq_zero_or_pos c with hc0 | hc0
  · subst hc0
    rw [digs_zero, List.nil_append] at hv hr ⊢
    refine lead_of (by omega) hr fun hn => ?_
    have hno : out ≠ [] := fun h => by subst h; exact hn (List.eq_nil_of_length_eq_zero (by simpa using e2))
    have h2 := lead_low (by omega) hl ho hno
    have h3 := (val_range tb (by omega) _ out rfl ho).1
    have h4 : val tb out * 1 ≤ val tb out * fr := Int.mul_le_mul_of_nonneg_left hfr0 h3
    rw [hv, e2]
    omega
  · obtain ⟨x, r, e, hx⟩ := digs_lead tb.toNat (by omega) c hc0
    rw [e]
    intro y q hq
    rw [List.cons_append] at hq
    injection hq with q1 _
    exact q1 ▸ hx

theorem rebased_facts (fr tb : Int) (hfr0 : 1 ≤ fr) (hfr1 : fr ≤ 256) (hto : 2 ≤ tb) (hto2 : tb ≤ 256) : ∀ (n : Nat) (ds : List Int), ds.length = n → (∀ d ∈ ds, 0 ≤ d ∧ d < fr) →
    val tb (rebased fr tb ds) = val fr ds ∧ Lead (rebased fr tb ds) ∧ ∀ x ∈ rebased fr tb ds, 0 ≤ x ∧ x < tb := by
  intro n
  induction n with
  | zero =>
    intro ds hl _
    obtain rfl := List.eq_nil_of_length_eq_zero hl
    exact ⟨rfl, lead_nil, by simp [rebased]⟩
  | succ n ih =>
    intro ds hl h
    obtain ⟨ds', x, rfl⟩ : ∃ ds' x, ds = ds' ++ [x] := by
      rcases List.eq_nil_or_concat ds with rfl | ⟨l', x, rfl⟩
      · simp at hl
      · exact ⟨l', x, by simp⟩
    obtain ⟨a, b, c⟩ := ih ds' (by simpa using hl) (fun d hd => h d (List.mem_append_left _ hd))
    have hx := h x (by simp)
    have e : rebased fr tb (ds' ++ [x]) = addDig fr tb (rebased fr tb ds') x := by simp [rebased]
    obtain ⟨a1, a2, a3⟩ := addDig_facts fr tb hfr0 hfr1 hto hto2 _ x c b hx.1 (by omega)
    rw [e, val_snoc, ← a]
    exact ⟨a1, a2, a3⟩

/-- Digits turned into another base and back, without the zeros ahead. -/
theorem rebased_back (ds : List Int) (h : ∀ d ∈ ds, 0 ≤ d ∧ d < 256) (hl : Lead ds) : rebased 58 256 (rebased 256 58 ds) = ds := by
  obtain ⟨a, _, c⟩ := rebased_facts 256 58 (by decide) (by decide) (by decide) (by decide) _ ds rfl h
  obtain ⟨a', b', c'⟩ := rebased_facts 58 256 (by decide) (by decide) (by decide) (by decide) _ _ rfl c
  exact canon (by decide) c' h b' hl (a'.trans a)
end Go.Proofs.YtpgfhcobfaceeaaDoor.PFnUnBase58
