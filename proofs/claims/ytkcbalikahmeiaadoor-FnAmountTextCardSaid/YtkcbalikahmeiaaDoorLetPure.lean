/-
  The letters of a decimal number, in plain words.
-/
import Derived.Test.YtkcbalikahmeiaaDoorDigWalk
namespace Go.Proofs.YtkcbalikahmeiaaDoor.Aft
open Go.Lib

def ltr (u i : Nat) : Int := 48 + ((u / 10 ^ i % 10 : Nat) : Int)
/-- The letters behind the point: the lowest digits, without the zeros at the end. -/
def fr (u : Nat) : Nat → List Int
  | 0 => []
  | i + 1 => if fr u i = [] ∧ u / 10 ^ i % 10 = 0 then [] else ltr u i :: fr u i
/-- The number with a point ahead of its last digits. -/
def txt (u q : Nat) : List Int := dig (u / 10 ^ q) ++ (if fr u q = [] then [] else 46 :: fr u q)

theorem dg_ltr (u i : Nat) : ((dg u i).toNat : Int) = ltr u i := by
  unfold dg ltr
  have h : u / 10 ^ i % 10 < 10 := Nat.mod_lt _ (by decide)
  rw [UInt8.toNat_ofNat']
  omega
theorem dig_eq (u : Nat) : dig u = (List.range (nDigits u)).map fun t => ltr u (nDigits u - 1 - t) := by
  unfold dig
  rw [decDigits_eq, List.map_map]
  apply List.map_congr_left
  intro t _
  exact dg_ltr u _
theorem dig_at (u j : Nat) (h : j < nDigits u) : (dig u)[j]? = some (ltr u (nDigits u - 1 - j)) := by
  rw [dig_eq, List.getElem?_map, List.getElem?_range h]
  rfl
theorem ltr_div (u q i : Nat) : ltr (u / 10 ^ q) i = ltr u (q + i) := by
  unfold ltr
  rw [Nat.div_div_eq_div_mul, ← Nat.pow_add]
theorem nDigits_div (q : Nat) : ∀ u, q < nDigits u → nDigits (u / 10 ^ q) = nDigits u - q := by
  induction q with
  | zero => intro u _; rw [Nat.pow_zero, Nat.div_one]; rfl
  | succ q ih =>
    intro u h
    have hb : ¬ u < 10 := fun h' => by rw [nDigits_small h'] at h; omega
    have e := nDigits_big hb
    rw [Nat.pow_succ, Nat.mul_comm, ← Nat.div_div_eq_div_mul, ih (u / 10) (by omega)]
    omega
theorem dig_take (u q : Nat) (h : q < nDigits u) : (dig u).take (nDigits u - q) = dig (u / 10 ^ q) := by
  apply List.ext_getElem?
  intro j
  have hd := nDigits_div q u h
  rw [List.getElem?_take]
  by_cases hj : j < nDigits u - q
  · rw [if_pos hj, dig_at u j (by omega), dig_at (u / 10 ^ q) j (by omega), ltr_div, hd]
    congr 2
    omega
  · rw [if_neg hj, List.getElem?_eq_none (by rw [dig_length]; omega)]
theorem dig_zero {u q : Nat} (h : nDigits u ≤ q) : dig (u / 10 ^ q) = [48] := by
  have h1 : u < 10 ^ q := Nat.lt_of_lt_of_le (lt_pow_nDigits u) (Nat.pow_le_pow_right (by decide) h)
  rw [Nat.div_eq_of_lt h1]
  unfold dig
  rw [decDigits_one (by decide)]
  rfl
theorem fr_nil (u : Nat) : ∀ i, fr u i = [] ↔ u % 10 ^ i = 0
  | 0 => by simp [fr, Nat.mod_one]
  | i + 1 => by
    have e : u % 10 ^ (i + 1) = u % 10 ^ i + 10 ^ i * (u / 10 ^ i % 10) := by rw [Nat.pow_succ, Nat.mod_mul]
    have hp : 0 < 10 ^ i := Nat.pow_pos (by decide)
    have ih := fr_nil u i
    rw [fr]
    constructor
    · intro h
      split at h
      · rename_i c
        rw [e, ih.1 c.1, c.2, Nat.mul_zero]
      · cases h
    · intro h
      rw [e] at h
      have h1 : u % 10 ^ i = 0 := by omega
      have h2 : u / 10 ^ i % 10 = 0 := by
        have h3 : 10 ^ i * (u / 10 ^ i % 10) = 0 := by omega
        rcases Nat.mul_eq_zero.1 h3 with h4 | h4
        · omega
        · exact h4
      rw [if_pos ⟨ih.2 h1, h2⟩]
theorem fr_scale (N e : Nat) : ∀ i, fr (N * 10 ^ e) (i + e) = fr N i
  | 0 => by
    rw [Nat.zero_add, (fr_nil _ e).2 (Nat.mul_mod_left _ _)]
    rfl
  | i + 1 => by
    have hp : 0 < 10 ^ e := Nat.pow_pos (by decide)
    have h1 : N * 10 ^ e / 10 ^ (i + e) = N / 10 ^ i := by rw [Nat.add_comm, Nat.pow_add, ← Nat.div_div_eq_div_mul, Nat.mul_div_cancel _ hp]
    rw [show i + 1 + e = i + e + 1 by omega, fr, fr, fr_scale N e i, h1]
    have h2 : ltr (N * 10 ^ e) (i + e) = ltr N i := by unfold ltr; rw [h1]
    rw [h2]
theorem txt_scale (N e i : Nat) : txt (N * 10 ^ e) (i + e) = txt N i := by
  have hp : 0 < 10 ^ e := Nat.pow_pos (by decide)
  have h1 : N * 10 ^ e / 10 ^ (i + e) = N / 10 ^ i := by rw [Nat.add_comm, Nat.pow_add, ← Nat.div_div_eq_div_mul, Nat.mul_div_cancel _ hp]
  unfold txt
  rw [fr_scale, h1]
/-- The letters of a number, whatever stands behind them. -/
structure Holds (u : Nat) (l : List Int) : Prop where
  len : nDigits u ≤ l.length
  at_ : ∀ j, j < nDigits u → l.getD j 0 = ltr u (nDigits u - 1 - j)
theorem holds (u c : Nat) : Holds u (dig u ++ List.replicate c 0) :=
  ⟨by rw [List.length_append, dig_length]; omega, fun j h => by
    rw [List.getD_eq_getElem?_getD, List.getElem?_append_left (by rw [dig_length]; exact h), dig_at u j h]
    rfl⟩
theorem sl_le (l : List Int) : ∀ k, sl l k ≤ k
  | 0 => Nat.le_refl _
  | k + 1 => by
    rw [sl]
    split
    · have := sl_le l k; omega
    · exact Nat.le_refl _
theorem sl_zero (l : List Int) : ∀ k t, sl l k ≤ t → t < k → l.getD t 0 = 48
  | 0, _, _, h => by omega
  | k + 1, t, h1, h2 => by
    rw [sl] at h1
    split at h1
    · rename_i c
      rcases Nat.lt_or_ge t k with g | g
      · exact sl_zero l k t h1 g
      · rw [show t = k by omega]; exact c
    · omega
theorem sl_last (l : List Int) : ∀ k j, sl l k = j + 1 → l.getD j 0 ≠ 48
  | 0, _, h => by cases h
  | k + 1, j, h => by
    rw [sl] at h
    split at h
    · exact sl_last l k j h
    · rename_i c
      rw [← Nat.succ.inj h]
      exact c
theorem ltr_48 (u i : Nat) : ltr u i = 48 ↔ u / 10 ^ i % 10 = 0 := by unfold ltr; omega
theorem fr_sl (u : Nat) (l : List Int) (hl : Holds u l) : ∀ i, i ≤ nDigits u → fr u i = (l.drop (nDigits u - i)).take (sl l (nDigits u) - (nDigits u - i))
  | 0, _ => by
    have := sl_le l (nDigits u)
    rw [show sl l (nDigits u) - (nDigits u - 0) = 0 by omega]
    rfl
  | i + 1, h => by
    obtain ⟨j, hj⟩ : ∃ j, j = nDigits u - (i + 1) := ⟨_, rfl⟩
    have ih := fr_sl u l hl i (by omega)
    have hlen := hl.len
    have hat := hl.at_ j (by omega)
    rw [show nDigits u - 1 - j = i by omega] at hat
    have hsle := sl_le l (nDigits u)
    rw [show nDigits u - i = j + 1 by omega] at ih
    rw [← hj]
    have hd : l.drop j = ltr u i :: l.drop (j + 1) := by
      rw [List.drop_eq_getElem_cons (by omega : j < l.length)]
      congr 1
      rw [← hat, List.getD_eq_getElem?_getD, List.getElem?_eq_getElem (by omega : j < l.length)]
      rfl
    have hs0 := sl_zero l (nDigits u) j
    have hs1 := sl_last l (nDigits u) j
    generalize sl l (nDigits u) = s at *
    rw [fr, hd]
    rcases Nat.lt_trichotomy s (j + 1) with g | g | g
    · have h48 := hs0 (by omega) (by omega)
      rw [hat, ltr_48] at h48
      rw [ih, show s - (j + 1) = 0 by omega, show s - j = 0 by omega, List.take_zero, if_pos ⟨rfl, h48⟩]
      rfl
    · have h48 := hs1 g
      rw [hat, Ne, ltr_48] at h48
      rw [ih, show s - (j + 1) = 0 by omega, show s - j = 1 by omega, List.take_zero, if_neg (fun c => h48 c.2)]
      rfl
    · rw [if_neg (fun c => by
        have hc := congrArg List.length c.1
        rw [ih, List.length_take, List.length_drop] at hc
        simp only [List.length_nil] at hc
        omega), ih, show s - j = s - (j + 1) + 1 by omega]
      rfl
theorem fr_pad (u : Nat) (h1 : 1 ≤ u) : ∀ e, fr u (nDigits u + e) = List.replicate e 48 ++ fr u (nDigits u)
  | 0 => rfl
  | e + 1 => by
    have hlt := lt_pow_nDigits u
    have ih := fr_pad u h1 e
    have hz : u / 10 ^ (nDigits u + e) = 0 := Nat.div_eq_of_lt (Nat.lt_of_lt_of_le hlt (Nat.pow_le_pow_right (by decide) (by omega)))
    have hne : ¬ fr u (nDigits u + e) = [] := by
      rw [fr_nil, Nat.mod_eq_of_lt (Nat.lt_of_lt_of_le hlt (Nat.pow_le_pow_right (by decide) (by omega)))]
      omega
    have hl : ltr u (nDigits u + e) = 48 := by rw [ltr_48, hz]
    rw [show nDigits u + (e + 1) = nDigits u + e + 1 by omega, fr, if_neg (fun c => hne c.1), hl, ih]
    rfl
theorem sl_pos (u : Nat) (l : List Int) (hl : Holds u l) (h1 : 1 ≤ u) : 1 ≤ sl l (nDigits u) := by
  have h := fr_sl u l hl (nDigits u) (Nat.le_refl _)
  rcases Nat.lt_or_ge 0 (sl l (nDigits u)) with g | g
  · exact g
  · exfalso
    rw [show sl l (nDigits u) - (nDigits u - nDigits u) = 0 by omega, List.take_zero, fr_nil, Nat.mod_eq_of_lt (lt_pow_nDigits u)] at h
    omega
/-- What fmtEFG writes of a number with a whole part. -/
theorem txt_pos (u Q D s mm : Nat) (l : List Int) (hl : Holds u l) (hQ : Q < nDigits u) (hD : D = nDigits u - Q) (hs : s = sl l (nDigits u)) (hmm : mm = min s D) :
    (l.take mm ++ List.replicate (D - mm) 48) ++ (if 0 < s - D then 46 :: (List.replicate 0 48 ++ (l.drop D).take (s - D) ++ List.replicate 0 48) else []) = txt u Q := by
  have hf := fr_sl u l hl Q (by omega)
  rw [← hs, ← hD] at hf
  have hle := sl_le l (nDigits u)
  rw [← hs] at hle
  have hlen := hl.len
  unfold txt
  congr 1
  · rw [← dig_take u Q hQ, ← hD]
    apply List.ext_getElem?
    intro j
    rw [List.getElem?_take]
    by_cases hj : j < D
    · rw [if_pos hj, dig_at u j (by omega)]
      by_cases hm : j < mm
      · rw [List.getElem?_append_left (by rw [List.length_take]; omega), List.getElem?_take, if_pos hm, ← hl.at_ j (by omega), List.getD_eq_getElem?_getD, List.getElem?_eq_getElem (by omega : j < l.length)]
        rfl
      · have e : (l.take mm).length = mm := by rw [List.length_take]; omega
        rw [List.getElem?_append_right (by omega), e, List.getElem?_replicate, if_pos (by omega), ← hl.at_ j (by omega), sl_zero l (nDigits u) j (by omega) (by omega)]
    · rw [if_neg hj, List.getElem?_eq_none (by rw [List.length_append, List.length_take, List.length_replicate]; omega)]
  · rw [← hf]
    by_cases h : 0 < s - D
    · have hne : ¬ fr u Q = [] := fun c => by
        have hc := congrArg List.length c
        rw [hf, List.length_take, List.length_drop] at hc
        simp only [List.length_nil] at hc
        omega
      rw [if_pos h, if_neg hne]
      simp
    · rw [if_neg h, hf, show s - D = 0 by omega, List.take_zero, if_pos rfl]
/-- .. and without one. -/
theorem txt_small (u Q s : Nat) (l : List Int) (hl : Holds u l) (h1 : 1 ≤ u) (hQ : nDigits u ≤ Q) (hs : s = sl l (nDigits u)) :
    [48] ++ 46 :: (List.replicate (Q - nDigits u) 48 ++ (l.drop 0).take s ++ List.replicate 0 48) = txt u Q := by
  have hf := fr_sl u l hl (nDigits u) (Nat.le_refl _)
  rw [← hs, Nat.sub_self, Nat.sub_zero] at hf
  have hp := fr_pad u h1 (Q - nDigits u)
  rw [show nDigits u + (Q - nDigits u) = Q by omega] at hp
  have hne : ¬ fr u Q = [] := by
    rw [fr_nil, Nat.mod_eq_of_lt (Nat.lt_of_lt_of_le (lt_pow_nDigits u) (Nat.pow_le_pow_right (by decide) hQ))]
    omega
  unfold txt
  rw [dig_zero hQ, if_neg hne, hp, hf]
  simp
end Go.Proofs.YtkcbalikahmeiaaDoor.Aft
