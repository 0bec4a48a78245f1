/-
  The number that digits spell; digits without zeros ahead are one list for a number. No Go, no memory.
-/
import Derived.Lib.EndianBits
namespace Go.Proofs.YtpgfhcobfaceeaaDoor.Val

/-- The number that digits spell. -/
def val (B : Int) (l : List Int) : Int := l.foldl (fun a d => a * B + d) 0
theorem val_from (B : Int) : ∀ (l : List Int) (a : Int), l.foldl (fun a d => a * B + d) a = a * B ^ l.length + val B l
  | [], a => by simp [val]
  | d :: l, a => by
    have h1 := val_from B l (a * B + d)
    have h2 := val_from B l (0 * B + d)
    unfold val at *
    simp only [List.foldl_cons, List.length_cons]
    rw [h1, h2, Int.pow_succ]
    have e : (a * B + d) * B ^ l.length = a * (B ^ l.length * B) + d * B ^ l.length := by rw [Int.add_mul, Int.mul_assoc, Int.mul_comm B]
    have e2 : (0 * B + d) * B ^ l.length = d * B ^ l.length := by rw [Int.zero_mul, Int.zero_add]
    omega
theorem val_append (B : Int) (l r : List Int) : val B (l ++ r) = val B l * B ^ r.length + val B r := by
  unfold val
  rw [List.foldl_append, val_from]
  rfl
theorem val_snoc (B : Int) (l : List Int) (d : Int) : val B (l ++ [d]) = val B l * B + d := by
  rw [val_append]; simp [val, Int.pow_succ]
theorem val_nil (B : Int) : val B [] = 0 := rfl
theorem val_range (B : Int) (hB : 0 < B) : ∀ n (l : List Int), l.length = n → (∀ x ∈ l, 0 ≤ x ∧ x < B) → 0 ≤ val B l ∧ val B l < B ^ l.length := by
  intro n
  induction n with
  | zero =>
    intro l hl _
    obtain rfl := List.eq_nil_of_length_eq_zero hl
    simp [val]
  | succ n ih =>
    intro l hl h
    obtain ⟨l', x, rfl⟩ : ∃ l' x, l = l' ++ [x] := by
      rcases List.eq_nil_or_concat l with rfl | ⟨l', x, rfl⟩
      · simp at hl
      · exact ⟨l', x, by simp⟩
    obtain ⟨a, b⟩ := ih l' (by simpa using hl) (fun y hy => h y (List.mem_append_left _ hy))
    have hx := h x (by simp)
    rw [val_snoc, List.length_append, List.length_singleton, Int.pow_succ]
    have h1 : 0 ≤ val B l' * B := Int.mul_nonneg a (by omega)
    have h2 : (val B l' + 1) * B ≤ B ^ l'.length * B := Int.mul_le_mul_of_nonneg_right (by omega) (by omega)
    rw [Int.add_mul] at h2
    omega
/-- Digits are told by their number and how many they are. -/
theorem val_inj (B : Int) (hB : 0 < B) : ∀ n (l r : List Int), l.length = n → r.length = n → (∀ x ∈ l, 0 ≤ x ∧ x < B) → (∀ x ∈ r, 0 ≤ x ∧ x < B) → val B l = val B r → l = r := by
  intro n
  induction n with
  | zero =>
    intro l r hl hr _ _ _
    rw [List.eq_nil_of_length_eq_zero hl, List.eq_nil_of_length_eq_zero hr]
  | succ n ih =>
    intro l r hl hr h1 h2 h
    obtain ⟨l', x, rfl⟩ : ∃ l' x, l = l' ++ [x] := by
      rcases List.eq_nil_or_concat l with rfl | ⟨l', x, rfl⟩
      · simp at hl
      · exact ⟨l', x, by simp⟩
    obtain ⟨r', y, rfl⟩ : ∃ r' y, r = r' ++ [y] := by
      rcases List.eq_nil_or_concat r with rfl | ⟨l', x, rfl⟩
      · simp at hr
      · exact ⟨l', x, by simp⟩
    have hx := h1 x (by simp)
    have hy := h2 y (by simp)
    rw [val_snoc, val_snoc] at h
    have hm : x = y := by
      have e := congrArg (· % B) h
      simp only [Int.add_comm _ x, Int.add_comm _ y, Int.add_mul_emod_self_right] at e
      rwa [Int.emod_eq_of_lt hx.1 hx.2, Int.emod_eq_of_lt hy.1 hy.2] at e
    subst hm
    have hv : val B l' = val B r' := by
      have : val B l' * B = val B r' * B := by omega
      exact Int.eq_of_mul_eq_mul_right (by omega) this
    rw [ih l' r' (by simpa using hl) (by simpa using hr) (fun z hz => h1 z (List.mem_append_left _ hz)) (fun z hz => h2 z (List.mem_append_left _ hz)) hv]

theorem val_cons (B x : Int) (l : List Int) : val B (x :: l) = x * B ^ l.length + val B l := by
  have := val_append B [x] l
  simpa [val] using this
/-- No zero ahead. -/
def Lead (l : List Int) : Prop := ∀ x r, l = x :: r → x ≠ 0
theorem lead_nil : Lead [] := fun _ _ h => by cases h
theorem lead_low {B : Int} (hB : 0 < B) {l : List Int} (h : Lead l) (hr : ∀ x ∈ l, 0 ≤ x ∧ x < B) (hn : l ≠ []) : B ^ (l.length - 1) ≤ val B l := by
  match l, hn with
  | x :: r, _ =>
    have hx := hr x List.mem_cons_self
    have h0 := h x r rfl
    have hv := (val_range B hB _ r rfl (fun y hy => hr y (List.mem_cons_of_mem _ hy))).1
    rw [val_cons, List.length_cons, Nat.add_sub_cancel]
    have h1 : 1 * B ^ r.length ≤ x * B ^ r.length := Int.mul_le_mul_of_nonneg_right (by omega) (Int.le_of_lt (Int.pow_pos hB))
    omega
theorem lead_of {B : Int} (hB : 0 < B) {l : List Int} (hr : ∀ x ∈ l, 0 ≤ x ∧ x < B) (h : l ≠ [] → B ^ (l.length - 1) ≤ val B l) : Lead l := by
  intro x r e h0
  subst e
  subst h0
  have h1 := h (by simp)
  have hv := (val_range B hB _ r rfl (fun y hy => hr y (List.mem_cons_of_mem _ hy))).2
  rw [val_cons, List.length_cons, Nat.add_sub_cancel] at h1
  omega
theorem pow_le {B : Int} (hB : 0 < B) {m n : Nat} (h : m ≤ n) : B ^ m ≤ B ^ n := by
  obtain ⟨k, rfl⟩ : ∃ k, n = m + k := ⟨n - m, by omega⟩
  rw [Int.pow_add]
  have h1 : (1 : Int) ≤ B ^ k := Int.pow_pos hB
  have h2 : B ^ m * 1 ≤ B ^ m * B ^ k := Int.mul_le_mul_of_nonneg_left h1 (Int.le_of_lt (Int.pow_pos hB))
  omega
theorem lead_len {B : Int} (hB : 0 < B) {l r : List Int} (hl : ∀ x ∈ l, 0 ≤ x ∧ x < B) (hr : ∀ x ∈ r, 0 ≤ x ∧ x < B) (hr0 : Lead r) (h : val B l = val B r) : r.length ≤ l.length := by
  by_cases hn : r = []
  · subst hn; simp
  · have h1 := lead_low hB hr0 hr hn
    have h2 := (val_range B hB _ l rfl hl).2
    by_cases hle : r.length ≤ l.length
    · exact hle
    · have h3 := pow_le hB (show l.length ≤ r.length - 1 by omega)
      omega
/-- Digits without zeros ahead are told by their number. -/
theorem canon {B : Int} (hB : 0 < B) {l r : List Int} (hl : ∀ x ∈ l, 0 ≤ x ∧ x < B) (hr : ∀ x ∈ r, 0 ≤ x ∧ x < B) (hl0 : Lead l) (hr0 : Lead r) (h : val B l = val B r) : l = r :=
  val_inj B hB _ l r rfl (Nat.le_antisymm (lead_len hB hl hr hr0 h) (lead_len hB hr hl hl0 h.symm)) hl hr h
end Go.Proofs.YtpgfhcobfaceeaaDoor.Val
