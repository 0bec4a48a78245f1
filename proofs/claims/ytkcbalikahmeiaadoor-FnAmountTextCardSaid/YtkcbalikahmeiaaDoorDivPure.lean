/-
  A whole number over a power of ten, as a double: its bits, and how near it is.
-/
import Derived.Test.YtkcbalikahmeiaaDoorFl
namespace FlPlain
open Ieee

/-- No number of at most fifteen digits lies in the middle of two doubles. -/
theorem no_mid (N t k o : Nat) (hN : N ≤ 1000000000000000) (ho : 2 ^ 53 - 1 ≤ o) (hodd : o % 2 = 1) : N * 2 ^ (t + 1) ≠ o * (2 ^ k * 5 ^ k) := by
  intro e
  have h5 : 0 < 5 ^ k := Nat.pow_pos (by decide)
  have h5o : 5 ^ k % 2 = 1 := by rw [Nat.pow_mod]; simp
  rcases Nat.lt_or_ge k (t + 1) with g | g
  · obtain ⟨u, hu⟩ : ∃ u, t + 1 = k + 1 + u := ⟨t - k, by omega⟩
    rw [hu, Nat.pow_add, Nat.pow_add] at e
    have e2 : N * 2 ^ u * 2 * 2 ^ k = o * 5 ^ k * 2 ^ k := by
      have a : N * 2 ^ u * 2 * 2 ^ k = N * (2 ^ k * 2 ^ 1 * 2 ^ u) := by rw [Nat.pow_one]; ac_rfl
      have b : o * 5 ^ k * 2 ^ k = o * (2 ^ k * 5 ^ k) := by ac_rfl
      rw [a, b, e]
    have e3 := Nat.eq_of_mul_eq_mul_right (Nat.two_pow_pos k) e2
    have o1 : (o * 5 ^ k) % 2 = 1 := by rw [Nat.mul_mod, hodd, h5o]
    omega
  · obtain ⟨u, hu⟩ : ∃ u, k = t + 1 + u := ⟨k - (t + 1), by omega⟩
    have e2 : N * 2 ^ (t + 1) = o * 2 ^ u * 5 ^ k * 2 ^ (t + 1) := by
      rw [e]
      conv => lhs; rw [show 2 ^ k = 2 ^ (t + 1) * 2 ^ u by rw [← Nat.pow_add, ← hu]]
      ac_rfl
    have e3 := Nat.eq_of_mul_eq_mul_right (Nat.two_pow_pos (t + 1)) e2
    have : o ≤ o * 2 ^ u * 5 ^ k := by
      rw [Nat.mul_assoc]
      exact Nat.le_mul_of_pos_right o (Nat.mul_pos (Nat.two_pow_pos u) h5)
    omega
/-- The bits of a double: 2 ^ -t times M. -/
structure Near (N K t M : Nat) : Prop where
  lo : (2 * M - 1) * K < N * 2 ^ (t + 1)
  hi : N * 2 ^ (t + 1) < (2 * M + 1) * K
  m1 : 2 ^ 52 ≤ M
  m2 : M < 2 ^ 53
  two : M = 2 ^ 52 → (4 * M - 1) * K < N * 2 ^ (t + 2)
theorem next_word (x : Nat) : x * 2 ^ 52 + 2 ^ 53 = (x + 1) * 2 ^ 52 + 2 ^ 52 := by omega
/-- The arithmetic behind it. -/
theorem core (N K t k b c m D q r z kept : Nat) (hN : N ≤ 1000000000000000) (hKk : K = 2 ^ k * 5 ^ k) (hD : D = K * 2 ^ b) (hDp : 0 < D) (hcp : 0 < c) (hq : m * 2 ^ 54 = D * q + r) (hr : r < D) (hz1 : r ≠ 0 → z = 1) (hz : z ≤ 1)
    (n1 : 2 * (kept * (c * 4)) ≤ 2 * (2 * q + z) + c * 4) (n2 : 2 * (2 * q + z) ≤ 2 * (kept * (c * 4)) + c * 4) (hself : c * 2 ^ 54 ≤ 2 * q + z) (hND : m * 2 ^ 54 = N * 2 ^ (t + 1) * (2 ^ b * c)) (hk1 : 2 ^ 52 ≤ kept) :
    (2 * kept - 1) * K < N * 2 ^ (t + 1) ∧ N * 2 ^ (t + 1) < (2 * kept + 1) * K ∧ 2 ^ 53 * K ≤ N * 2 ^ (t + 1) ∧ 0 < K := by
  have q1 : (2 * kept - 1) * c ≤ q := by
    rw [Nat.sub_mul, Nat.one_mul]
    have h1 : 2 * (kept * (c * 4)) = 4 * (2 * kept * c) := by ac_rfl
    omega
  have q2 : m * 2 ^ 54 ≤ D * ((2 * kept + 1) * c) := by
    have h1 : 2 * (kept * (c * 4)) = 4 * (2 * kept * c) := by ac_rfl
    have h2 : (2 * kept + 1) * c = 2 * kept * c + c := by rw [Nat.add_mul, Nat.one_mul]
    rw [h2, hq]
    rcases Nat.lt_or_ge q (2 * kept * c + c) with g | g
    · have := Nat.mul_le_mul_left D g
      rw [Nat.mul_succ] at this
      omega
    · have hr0 : r = 0 := by
        rcases Nat.eq_zero_or_pos r with g | g
        · exact g
        · have := hz1 (by omega); omega
      rw [hr0, Nat.add_zero]
      exact Nat.mul_le_mul_left _ (by omega)
  have q3 : 2 ^ 53 * c ≤ q := by omega
  have hbc : 0 < 2 ^ b * c := Nat.mul_pos (Nat.two_pow_pos b) hcp
  have hDq : ∀ x, x * c ≤ q → x * K * (2 ^ b * c) ≤ N * 2 ^ (t + 1) * (2 ^ b * c) := fun x hx => by
    rw [← hND, hq]
    have h1 : x * K * (2 ^ b * c) = D * (x * c) := by rw [hD]; ac_rfl
    rw [h1]
    exact Nat.le_trans (Nat.mul_le_mul_left D hx) (Nat.le_add_right _ _)
  have f1 := Nat.le_of_mul_le_mul_right (hDq _ q1) hbc
  have f3 := Nat.le_of_mul_le_mul_right (hDq _ q3) hbc
  have f2 : N * 2 ^ (t + 1) ≤ (2 * kept + 1) * K := by
    refine Nat.le_of_mul_le_mul_right (c := 2 ^ b * c) ?_ hbc
    rw [← hND]
    refine Nat.le_trans q2 (Nat.le_of_eq ?_)
    rw [hD]; ac_rfl
  have g1 := no_mid N t k (2 * kept - 1) hN (by omega) (by omega)
  have g2 := no_mid N t k (2 * kept + 1) hN (by omega) (by omega)
  rw [← hKk] at g1 g2
  have hKp : 0 < K := by
    rcases Nat.eq_zero_or_pos K with h | h
    · rw [h] at hD; omega
    · exact h
  exact ⟨by omega, by omega, f3, hKp⟩
theorem near_same (N K t kept : Nat) (f : (2 * kept - 1) * K < N * 2 ^ (t + 1)) (g : N * 2 ^ (t + 1) < (2 * kept + 1) * K) (h : 4503599627370496 * 2 * K ≤ N * 2 ^ (t + 1)) (hK : 0 < K) (h1 : 2 ^ 52 ≤ kept) (h2 : kept < 2 ^ 53) : Near N K t kept := by
  refine ⟨f, g, h1, h2, fun e => ?_⟩
  rw [e]
  have e1 : N * 2 ^ (t + 2) = 2 * (N * 2 ^ (t + 1)) := by rw [Nat.pow_succ 2 (t + 1)]; ac_rfl
  rw [e1]
  have e2 : (4 * 2 ^ 52 - 1) * K + K = 2 * (4503599627370496 * 2 * K) := by omega
  omega
theorem near_next (N K u : Nat) (f : (2 * 2 ^ 53 - 1) * K < N * 2 ^ (u + 2)) (g : N * 2 ^ (u + 2) < (2 * 2 ^ 53 + 1) * K) (hK : 0 < K) : Near N K u (2 ^ 52) := by
  have e1 : N * 2 ^ (u + 2) = 2 * (N * 2 ^ (u + 1)) := by rw [Nat.pow_succ 2 (u + 1)]; ac_rfl
  exact ⟨by omega, by omega, Nat.le_refl _, by omega, fun _ => by omega⟩
set_option maxHeartbeats 2000000 in
theorem div_bits (s : Bool) (N : Nat) (W K b k : Nat) (hN1 : 1 ≤ N) (hN : N ≤ 1000000000000000) (hW : double.read W = .number false (K * 2 ^ b) (-(b : Int))) (hK1 : 2 ^ 52 ≤ K * 2 ^ b) (hK2 : K * 2 ^ b < 2 ^ 53) (hKk : K = 2 ^ k * 5 ^ k) (hb : b ≤ 52) :
    ∃ t M : Nat, double.div (double.write (.number s N 0)) W = some (double.word s ((1074 - t) * 2 ^ 52 + M)) ∧ Near N K t M ∧ t + b ≤ 106 ∧ 54 ≤ t + b := by
  have hlg : N.log2 < 50 := (Nat.log2_lt (by omega)).2 (by omega)
  -- the dividend
  obtain ⟨m, p, e, p1, p2, p3, m1, m2, -, -, hx⟩ := near s N 0 (-1074) hN1 (by omega) (by omega) (by omega) (by omega)
  have hx' := hx (.inl (by omega))
  have hml : m.log2 = 52 := by
    have a := (Nat.le_log2 (by omega : m ≠ 0)).2 m1
    have b := (Nat.log2_lt (by omega : m ≠ 0)).2 m2
    omega
  obtain ⟨a, ha, hma⟩ : ∃ a : Nat, p = -(a : Int) ∧ m = N * 2 ^ a := by
    have hp0 : p ≤ 0 := by
      rcases Int.lt_or_le 0 p with g | g
      · exfalso
        have hE := eU_eq
        have a1 : 2 ^ 52 * 2 ^ eU ≤ m * 2 ^ (p - -1074).toNat := Nat.mul_le_mul m1 (Nat.pow_le_pow_right (by omega) (by omega))
        rw [hx', show ((0 : Int) - -1074).toNat = eU from by omega] at a1
        have a2 := Nat.le_of_mul_le_mul_right a1 (Nat.two_pow_pos eU)
        omega
      · exact g
    refine ⟨(-p).toNat, by omega, ?_⟩
    have e1 : ((0 : Int) - -1074).toNat = (-p).toNat + (p - -1074).toNat := by omega
    rw [e1, Nat.pow_add, ← Nat.mul_assoc] at hx'
    exact Nat.eq_of_mul_eq_mul_right (Nat.two_pow_pos _) hx'
  have ha3 : 3 ≤ a := by
    rcases Nat.lt_or_ge a 3 with g | g
    · exfalso
      have : N * 2 ^ a ≤ N * 2 ^ 2 := Nat.mul_le_mul_left _ (Nat.pow_le_pow_right (by decide) (by omega))
      omega
    · exact g
  have ha52 : a ≤ 52 := by
    rcases Nat.lt_or_ge 52 a with g | g
    · exfalso
      have h1 : 2 ^ 53 ≤ 2 ^ a := Nat.pow_le_pow_right (by decide) g
      have h2 : 1 * 2 ^ a ≤ N * 2 ^ a := Nat.mul_le_mul_right _ hN1
      omega
    · exact g
  obtain ⟨D, hD⟩ : ∃ D, D = K * 2 ^ b := ⟨_, rfl⟩
  have h8l : Nat.log2 D = 52 := by
    have a := (Nat.le_log2 (by omega : D ≠ 0)).2 (by rw [hD]; exact hK1)
    have b := (Nat.log2_lt (by omega : D ≠ 0)).2 (by rw [hD]; exact hK2)
    omega
  rw [← hD] at hW hK1 hK2
  have hDp : 0 < D := by omega
  -- the quotient
  obtain ⟨q, r, z, hq, hr, hz1, hz0, hmag⟩ : ∃ q r z, m * 2 ^ 54 = D * q + r ∧ r < D ∧ (r ≠ 0 → z = 1) ∧ (r = 0 → z = 0) ∧ 2 * (m <<< 54 / D) + (m <<< 54 % D != 0).toNat = 2 * q + z := by
    refine ⟨m <<< 54 / D, m <<< 54 % D, (m <<< 54 % D != 0).toNat, ?_, Nat.mod_lt _ hDp, fun h => ?_, fun h => ?_, rfl⟩
    · rw [← Nat.shiftLeft_eq]; exact (Nat.div_add_mod _ _).symm
    · rw [show (m <<< 54 % D != 0) = true from bne_iff_ne.2 h]; rfl
    · rw [h]; rfl
  have hz : z ≤ 1 := by
    by_cases h : r = 0
    · rw [hz0 h]; decide
    · rw [hz1 h]; decide
  have hq1 : 2 ^ 53 ≤ q := by
    rcases Nat.lt_or_ge q (2 ^ 53) with g | g
    · exfalso
      have : D * q ≤ D * (2 ^ 53 - 1) := Nat.mul_le_mul_left _ (by omega)
      omega
    · exact g
  have hq2 : q < 2 ^ 55 := by
    rcases Nat.lt_or_ge q (2 ^ 55) with g | g
    · exact g
    · exfalso
      have : D * 2 ^ 55 ≤ D * q := Nat.mul_le_mul_left _ g
      omega
  obtain ⟨mag, hmg⟩ : ∃ mag, mag = 2 * q + z := ⟨_, rfl⟩
  have hmne : mag ≠ 0 := by omega
  have hl1 : 54 ≤ mag.log2 := (Nat.le_log2 hmne).2 (by omega)
  have hl2 : mag.log2 < 56 := (Nat.log2_lt hmne).2 (by omega)
  obtain ⟨d, hd⟩ : ∃ d, mag.log2 = d + 54 := ⟨mag.log2 - 54, by omega⟩
  have hself : 2 ^ (d + 54) ≤ mag := by rw [← hd]; exact Nat.log2_self_le hmne
  have hself2 : mag < 2 ^ (d + 54 + 1) := by rw [← hd]; exact Nat.lt_log2_self
  -- kept
  obtain ⟨⟨n1, n2⟩, -, n4, n5⟩ := cut_near s mag (mag.log2 - 52) (by omega)
  obtain ⟨kept, hkept⟩ : ∃ kept, kept = Toward.even.cut s mag (mag.log2 - 52) := ⟨_, rfl⟩
  rw [← hkept] at n1 n2 n4 n5
  have hd2 : mag.log2 - 52 = d + 2 := by omega
  rw [hd2] at n1 n2 n4 n5
  obtain ⟨t, ht⟩ : ∃ t : Nat, (t : Int) = a + 53 - b - d := ⟨((a : Int) + 53 - b - d).toNat, by omega⟩
  have hdiv : double.div (double.write (.number s N 0)) W = some (double.word s ((1074 - t) * 2 ^ 52 + kept)) := by
    unfold Format.div Format.write
    rw [e, hW]
    have hd : double.fractionBits + 2 = 54 := rfl
    have hmore : 54 + Nat.log2 D - m.log2 = 54 := by rw [h8l, hml]
    simp only [Datum.quotient, hd]
    rw [if_neg (by omega), hmore, hmag, ← hmg]
    simp only [Bool.xor_false, Option.map_some]
    refine congrArg some ?_
    unfold Format.nearest
    rw [if_neg hmne]
    simp only [lastOf (p - -(b : Int) - ((54 : Nat) : Int) - 1) mag.log2 (by omega)]
    simp only [bin, inf, lp]
    have h1 : (p - -(b : Int) - ((54 : Nat) : Int) - 1 + (mag.log2 : Int) - 52 - (p - -(b : Int) - ((54 : Nat) : Int) - 1)).toNat = mag.log2 - 52 := by omega
    have h2 : (p - -(b : Int) - ((54 : Nat) : Int) - 1 - (p - -(b : Int) - ((54 : Nat) : Int) - 1 + (mag.log2 : Int) - 52)).toNat = 0 := by omega
    have h3 : (p - -(b : Int) - ((54 : Nat) : Int) - 1 + (mag.log2 : Int) - 52 - -1074).toNat = 1074 - t := by omega
    rw [h1, h2, h3, Nat.shiftLeft_zero, ← hkept]
    have hk2 : kept ≤ 2 ^ 53 := by
      have : mag / 2 ^ (d + 2) < 2 ^ 53 := (Nat.div_lt_iff_lt_mul (Nat.two_pow_pos _)).2 (by rw [← Nat.pow_add]; exact Nat.lt_of_lt_of_le hself2 (Nat.pow_le_pow_right (by decide) (by omega)))
      omega
    rw [Nat.min_eq_left (by omega)]
  have hk2 : kept ≤ 2 ^ 53 := by
    have : mag / 2 ^ (d + 2) < 2 ^ 53 := (Nat.div_lt_iff_lt_mul (Nat.two_pow_pos _)).2 (by rw [← Nat.pow_add]; exact Nat.lt_of_lt_of_le hself2 (Nat.pow_le_pow_right (by decide) (by omega)))
    omega
  have hk1 : 2 ^ 52 ≤ kept := by
    have : 2 ^ 52 ≤ mag / 2 ^ (d + 2) := (Nat.le_div_iff_mul_le (Nat.two_pow_pos _)).2 (by rw [← Nat.pow_add]; exact Nat.le_trans (Nat.pow_le_pow_right (by decide) (by omega)) hself)
    omega
  obtain ⟨c, hc⟩ : ∃ c, c = 2 ^ d := ⟨_, rfl⟩
  have hcp : 0 < c := by rw [hc]; exact Nat.two_pow_pos d
  rw [show 2 ^ (d + 2) = c * 4 from by rw [Nat.pow_add, hc]] at n1 n2
  rw [show 2 ^ (d + 54) = c * 2 ^ 54 from by rw [Nat.pow_add, hc]] at hself
  have hND : m * 2 ^ 54 = N * 2 ^ (t + 1) * (2 ^ b * c) := by
    rw [hma, hc, Nat.mul_assoc, Nat.mul_assoc, ← Nat.pow_add, ← Nat.pow_add, ← Nat.pow_add]
    exact congrArg (fun z => N * 2 ^ z) (by omega)
  rw [hmg] at n1 n2 hself
  obtain ⟨f1, f2, f3, hKp⟩ := core N K t k b c m D q r z kept hN hKk hD hDp hcp hq hr hz1 hz n1 n2 hself hND hk1
  have hd1 : d ≤ 1 := by omega
  clear hD hND hq hself hself2 n1 n2 n4 n5 hkept hmag hmg hx hx' hma
  by_cases hkk : kept < 2 ^ 53
  · exact ⟨t, kept, hdiv, near_same N K t kept f1 f2 f3 hKp hk1 hkk, by omega, by omega⟩
  · have hke : kept = 2 ^ 53 := by omega
    obtain ⟨u, hu⟩ : ∃ u, t = u + 1 := ⟨t - 1, by omega⟩
    rw [hke, hu] at hdiv f1 f2
    refine ⟨u, 2 ^ 52, ?_, near_next N K u f1 f2 hKp, by omega, by omega⟩
    rw [hdiv]
    refine congrArg (fun z => some (double.word s z)) ?_
    have e5 : 1074 - u = 1074 - (u + 1) + 1 := by omega
    generalize 1074 - (u + 1) = x at e5
    generalize 1074 - u = y at e5
    subst e5
    exact next_word x
end FlPlain
