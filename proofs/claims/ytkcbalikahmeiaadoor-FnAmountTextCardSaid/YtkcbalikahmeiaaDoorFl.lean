/-
Plain facts on Ieee's doubles: what is written is read back near to what it was, and just so where it fits.
-/
import Derived.Laws.FloatArith
namespace FlPlain
open Ieee

theorem lastOf (place : Int) (L : Nat) (h : -1022 ≤ place + L) : max (place + L - (double.fractionBits : Nat)) double.leastPlace = place + L - 52 := by
  have h1 : double.leastPlace = -1074 := by decide
  have h2 : ((double.fractionBits : Nat) : Int) = 52 := rfl
  rw [h1, h2]; omega

theorem sw : double.signWeight = 2 ^ 63 := by decide
theorem bin : double.binade = 2 ^ 52 := by decide
theorem inf : double.infRung = 2047 * 2 ^ 52 := by decide
theorem lp : double.leastPlace = -1074 := by decide

/-- Reading a normal rung. -/
theorem read_rung (s : Bool) (q f : Nat) (hf : f < 2 ^ 52) (hq : q < 2046) :
    double.read (double.word s ((q + 1) * 2 ^ 52 + f)) = .number s (2 ^ 52 + f) (-1074 + q) := by
  have hr : (q + 1) * 2 ^ 52 + f < 2 ^ 63 := by omega
  have h1 : double.word s ((q + 1) * 2 ^ 52 + f) / 2 ^ 63 % 2 = if s then 1 else 0 := by
    unfold Format.word; rw [sw]; cases s <;> simp <;> omega
  have h2 : double.word s ((q + 1) * 2 ^ 52 + f) % 2 ^ 63 = (q + 1) * 2 ^ 52 + f := by
    unfold Format.word; rw [sw]; cases s <;> simp <;> omega
  unfold Format.read
  simp only [sw, bin, inf, lp, h1, h2]
  rw [if_neg (by omega), if_pos (by omega)]
  have h3 : ((q + 1) * 2 ^ 52 + f) % 2 ^ 52 = f := by omega
  have h4 : ((q + 1) * 2 ^ 52 + f) / 2 ^ 52 - 1 = q := by omega
  rw [h3, h4]
  cases s <;> rfl

/-- To the nearest, ties to even: at most half a unit away. -/
theorem cut_near (s : Bool) (n d : Nat) (hd : d ≤ n.log2) :
    (2 * (Toward.even.cut s n d * 2 ^ d) ≤ 2 * n + 2 ^ d ∧ 2 * n ≤ 2 * (Toward.even.cut s n d * 2 ^ d) + 2 ^ d) ∧ (2 ^ d ∣ n → Toward.even.cut s n d * 2 ^ d = n)
    ∧ n / 2 ^ d ≤ Toward.even.cut s n d ∧ Toward.even.cut s n d ≤ n / 2 ^ d + 1 := by
  have hm : min d (n.log2 + 2) = d := by omega
  have hp : 0 < 2 ^ d := Nat.two_pow_pos d
  unfold Toward.cut
  simp only [hm, Nat.one_shiftLeft]
  generalize hg : 2 ^ d = g at *
  have hdm := Nat.div_add_mod n g
  have hlt := Nat.mod_lt n hp
  generalize hlow : n / g = low at *
  generalize hrest : n % g = rest at *
  have e1 : (low + 1) * g = g * low + g := by rw [Nat.add_mul, Nat.mul_comm]; simp
  have e0 : (low + 0) * g = g * low := by rw [Nat.mul_comm]; simp
  cases hb : (decide (g < 2 * rest) || (g == 2 * rest && low % 2 == 1)) with
  | true =>
    have hge : g ≤ 2 * rest := by
      simp only [Bool.or_eq_true, decide_eq_true_eq, Bool.and_eq_true, beq_iff_eq] at hb
      omega
    simp only [Bool.toNat_true]
    rw [e1]
    refine ⟨⟨by omega, by omega⟩, fun hdv => ?_, by omega, by omega⟩
    have : rest = 0 := by rw [← hrest]; exact Nat.mod_eq_zero_of_dvd hdv
    omega
  | false =>
    have hge : 2 * rest ≤ g := by
      simp only [Bool.or_eq_false_iff, decide_eq_false_iff_not, Bool.and_eq_false_iff, beq_eq_false_iff_ne] at hb
      omega
    simp only [Bool.toNat_false]
    rw [e0]
    refine ⟨⟨by omega, by omega⟩, fun hdv => ?_, by omega, by omega⟩
    have : rest = 0 := by rw [← hrest]; exact Nat.mod_eq_zero_of_dvd hdv
    omega

theorem two_pow_split {a b : Int} (h0 : 0 ≤ a) (h : a ≤ b) : (2 : Nat) ^ b.toNat = 2 ^ a.toNat * 2 ^ (b - a).toNat := by
  rw [← Nat.pow_add]; congr 1; omega

theorem number_eq {s : Bool} {m m' : Nat} {p p' : Int} (h : m = m') (h' : p = p') : Datum.number s m p = .number s m' p' := by rw [h, h']

theorem finish (s : Bool) (kept : Nat) (last b : Int) (v : Nat) (Ex : Prop) (k1 : 2 ^ 52 ≤ kept) (k2 : kept ≤ 2 ^ 53) (h1 : -1074 ≤ last) (h2 : last ≤ 848) (h3 : b ≤ last)
    (v1 : 2 ^ 53 * (kept * 2 ^ (last - b).toNat) ≤ (2 ^ 53 + 1) * v) (v2 : (2 ^ 53 - 1) * v ≤ 2 ^ 53 * (kept * 2 ^ (last - b).toNat)) (v3 : Ex → kept * 2 ^ (last - b).toNat = v) :
    ∃ k p, double.read (double.word s (min ((last + 1074).toNat * 2 ^ 52 + kept) (2047 * 2 ^ 52))) = .number s k p ∧ b ≤ p ∧ p ≤ 900 ∧ last ≤ p ∧ 2 ^ 52 ≤ k ∧ k < 2 ^ 53 ∧
      2 ^ 53 * (k * 2 ^ (p - b).toNat) ≤ (2 ^ 53 + 1) * v ∧ (2 ^ 53 - 1) * v ≤ 2 ^ 53 * (k * 2 ^ (p - b).toNat) ∧ (Ex → k * 2 ^ (p - b).toNat = v) := by
  obtain ⟨q, hq⟩ : ∃ q : Nat, (last + 1074).toNat = q := ⟨_, rfl⟩
  have hq2 : q ≤ 1922 := by omega
  have hmin : min (q * 2 ^ 52 + kept) (2047 * 2 ^ 52) = q * 2 ^ 52 + kept := by omega
  rw [hq, hmin]
  by_cases hc : kept < 2 ^ 53
  · obtain ⟨f, hf⟩ : ∃ f, kept = 2 ^ 52 + f := ⟨kept - 2 ^ 52, by omega⟩
    have hr := read_rung s q f (by omega) (by omega)
    have ee : q * 2 ^ 52 + kept = (q + 1) * 2 ^ 52 + f := by omega
    rw [ee, hr]
    exact ⟨kept, last, number_eq hf.symm (by omega), h3, by omega, Int.le_refl _, k1, hc, v1, v2, v3⟩
  · have hk : kept = 2 ^ 53 := by omega
    have hr := read_rung s (q + 1) 0 (by omega) (by omega)
    have ee : q * 2 ^ 52 + kept = (q + 1 + 1) * 2 ^ 52 + 0 := by omega
    have hv : 2 ^ 52 * 2 ^ (last + 1 - b).toNat = kept * 2 ^ (last - b).toNat := by
      rw [hk, ← Nat.pow_add, ← Nat.pow_add]
      have : 52 + (last + 1 - b).toNat = 53 + (last - b).toNat := by omega
      rw [this]
    rw [ee, hr]
    refine ⟨2 ^ 52, last + 1, number_eq (Nat.add_zero _) (by omega), by omega, by omega, by omega, Nat.le_refl _, by omega, ?_⟩
    rw [hv]
    exact ⟨v1, v2, v3⟩

/-- The word nearest to 'mag * 2 ^ place', in the normal range, read back; all in units of 2 ^ b. -/
theorem near (s : Bool) (mag : Nat) (place b : Int) (h0 : 0 < mag) (hb : b ≤ place) (hbl : b + 52 ≤ place + mag.log2) (hlo : -1022 ≤ place + mag.log2) (hhi : place + mag.log2 ≤ 900) :
    ∃ k p, double.read (double.nearest s mag place) = .number s k p ∧ b ≤ p ∧ p ≤ 900 ∧ place + mag.log2 - 52 ≤ p ∧ 2 ^ 52 ≤ k ∧ k < 2 ^ 53 ∧
      2 ^ 53 * (k * 2 ^ (p - b).toNat) ≤ (2 ^ 53 + 1) * (mag * 2 ^ (place - b).toNat) ∧ (2 ^ 53 - 1) * (mag * 2 ^ (place - b).toNat) ≤ 2 ^ 53 * (k * 2 ^ (p - b).toNat) ∧
      (mag < 2 ^ 53 ∨ 2 ^ (mag.log2 - 52) ∣ mag → k * 2 ^ (p - b).toNat = mag * 2 ^ (place - b).toNat) := by
  have hne : mag ≠ 0 := by omega
  have hl1 : 2 ^ mag.log2 ≤ mag := Nat.log2_self_le hne
  have hl2 : mag < 2 ^ (mag.log2 + 1) := Nat.lt_log2_self
  -- the kept significand, what it stands for
  have key : ∃ kept, double.nearest s mag place = double.word s (min ((place + mag.log2 - 52 + 1074).toNat * 2 ^ 52 + kept) (2047 * 2 ^ 52)) ∧ 2 ^ 52 ≤ kept ∧ kept ≤ 2 ^ 53 ∧
      2 ^ 53 * (kept * 2 ^ (place + mag.log2 - 52 - b).toNat) ≤ (2 ^ 53 + 1) * (mag * 2 ^ (place - b).toNat) ∧ (2 ^ 53 - 1) * (mag * 2 ^ (place - b).toNat) ≤ 2 ^ 53 * (kept * 2 ^ (place + mag.log2 - 52 - b).toNat) ∧
      (mag < 2 ^ 53 ∨ 2 ^ (mag.log2 - 52) ∣ mag → kept * 2 ^ (place + mag.log2 - 52 - b).toNat = mag * 2 ^ (place - b).toNat) := by
    unfold Format.nearest
    rw [if_neg hne]
    simp only [lastOf place mag.log2 hlo]
    simp only [bin, inf, lp]
    refine ⟨_, by rw [show place + (mag.log2 : Int) - 52 - -1074 = place + mag.log2 - 52 + 1074 from by omega], ?_⟩
    by_cases hL : mag.log2 ≤ 52
    · -- nothing is dropped
      have hd0 : (place + (mag.log2 : Int) - 52 - place).toNat = 0 := by omega
      have hsh : (place - (place + (mag.log2 : Int) - 52)).toNat = 52 - mag.log2 := by omega
      rw [hd0, hsh, Nat.shiftLeft_eq]
      have hk : Toward.even.cut s (mag * 2 ^ (52 - mag.log2)) 0 = mag * 2 ^ (52 - mag.log2) := by
        have := (cut_near s (mag * 2 ^ (52 - mag.log2)) 0 (Nat.zero_le _)).2.1 (by simp)
        simpa using this
      rw [hk]
      have hge : 2 ^ 52 ≤ mag * 2 ^ (52 - mag.log2) := by
        calc 2 ^ 52 = 2 ^ mag.log2 * 2 ^ (52 - mag.log2) := by rw [← Nat.pow_add]; congr 1; omega
          _ ≤ _ := Nat.mul_le_mul_right _ hl1
      have hlt : mag * 2 ^ (52 - mag.log2) < 2 ^ 53 := by
        calc mag * 2 ^ (52 - mag.log2) < 2 ^ (mag.log2 + 1) * 2 ^ (52 - mag.log2) := Nat.mul_lt_mul_of_pos_right hl2 (Nat.two_pow_pos _)
          _ = 2 ^ 53 := by rw [← Nat.pow_add]; congr 1; omega
      have hv : mag * 2 ^ (52 - mag.log2) * 2 ^ (place + (mag.log2 : Int) - 52 - b).toNat = mag * 2 ^ (place - b).toNat := by
        rw [Nat.mul_assoc, ← Nat.pow_add]; congr 2; omega
      rw [hv]
      generalize mag * 2 ^ (place - b).toNat = v
      exact ⟨hge, by omega, by omega, by omega, fun _ => rfl⟩
    · have hd : (place + (mag.log2 : Int) - 52 - place).toNat = mag.log2 - 52 := by omega
      have hsh : (place - (place + (mag.log2 : Int) - 52)).toNat = 0 := by omega
      rw [hd, hsh, Nat.shiftLeft_zero]
      obtain ⟨⟨n1, n2⟩, n3, n4, n5⟩ := cut_near s mag (mag.log2 - 52) (by omega)
      generalize Toward.even.cut s mag (mag.log2 - 52) = kept at *
      have hg : 2 ^ mag.log2 = 2 ^ 52 * 2 ^ (mag.log2 - 52) := by rw [← Nat.pow_add]; congr 1; omega
      have hg1 : 2 ^ (mag.log2 + 1) = 2 ^ 53 * 2 ^ (mag.log2 - 52) := by rw [← Nat.pow_add]; congr 1; omega
      have hu : 2 ^ (place + (mag.log2 : Int) - 52 - b).toNat = 2 ^ (mag.log2 - 52) * 2 ^ (place - b).toNat := by rw [← Nat.pow_add]; congr 1; omega
      rw [hu]
      have hgp : 0 < 2 ^ (mag.log2 - 52) := Nat.two_pow_pos _
      have q1 : 2 ^ 52 ≤ mag / 2 ^ (mag.log2 - 52) := (Nat.le_div_iff_mul_le hgp).2 (by rw [← hg]; exact hl1)
      have q2 : mag / 2 ^ (mag.log2 - 52) < 2 ^ 53 := (Nat.div_lt_iff_lt_mul hgp).2 (by rw [← hg1]; exact hl2)
      rw [hg] at hl1
      generalize 2 ^ (mag.log2 - 52) = g at *
      generalize 2 ^ (place - b).toNat = u
      have hx : kept * (g * u) = kept * g * u := (Nat.mul_assoc _ _ _).symm
      rw [hx]
      generalize hxx : kept * g = x at *
      refine ⟨by omega, by omega, ?_, ?_, ?_⟩
      · rw [← Nat.mul_assoc, ← Nat.mul_assoc]
        exact Nat.mul_le_mul_right u (by omega)
      · rw [← Nat.mul_assoc, ← Nat.mul_assoc]
        exact Nat.mul_le_mul_right u (by omega)
      · rintro (h | h)
        · exfalso
          have h1 : 2 ^ 53 ≤ 2 ^ mag.log2 := Nat.pow_le_pow_right (by omega) (by omega)
          have h2 := Nat.log2_self_le hne
          omega
        · rw [n3 h]
  obtain ⟨kept, e, k1, k2, v1, v2, v3⟩ := key
  rw [e]
  exact finish s kept (place + mag.log2 - 52) b _ _ k1 k2 (by omega) (by omega) (by omega) v1 v2 v3

/-- What a word stands for, in units of 2 ^ -1074: it is a number, and this one. -/
def Is (w : Nat) (v : Int) : Prop := ∃ s m p, double.read w = .number s m p ∧ -1074 ≤ p ∧ v = signed s m (p + 1074).toNat

def sg (s : Bool) (n : Nat) : Int := if s then -(n : Int) else n

theorem signed_eq (s : Bool) (m up : Nat) : signed s m up = sg s (m * 2 ^ up) := by
  unfold signed sg; rw [Nat.shiftLeft_eq]

theorem sg_abs (s : Bool) (n : Nat) : (sg s n).natAbs = n := by unfold sg; cases s <;> simp
theorem sg_mul (s t : Bool) (m n : Nat) : sg s m * sg t n = sg (s ^^ t) (m * n) := by
  unfold sg; cases s <;> cases t <;> simp [Int.neg_mul, Int.mul_neg]
theorem sg_scale (s : Bool) (m c : Nat) : sg s (m * c) = sg s m * (c : Int) := by
  unfold sg; cases s <;> simp [Int.neg_mul]
theorem sg_neg (s : Bool) (n : Nat) (h : 0 < n) : decide (sg s n < 0) = s := by
  unfold sg; cases s <;> simp <;> omega

theorem log_add (m t : Nat) (h : 0 < m) : (m * 2 ^ t).log2 = m.log2 + t := by
  have h1 := Nat.log2_self_le (n := m) (by omega)
  have h2 : m < 2 ^ (m.log2 + 1) := Nat.lt_log2_self
  have hp : 0 < m * 2 ^ t := Nat.mul_pos h (Nat.two_pow_pos t)
  have g1 : 2 ^ (m.log2 + t) ≤ m * 2 ^ t := by rw [Nat.pow_add]; exact Nat.mul_le_mul_right _ h1
  have g2 : m * 2 ^ t < 2 ^ (m.log2 + t + 1) := by
    rw [show m.log2 + t + 1 = (m.log2 + 1) + t from by omega, Nat.pow_add]
    exact Nat.mul_lt_mul_of_pos_right h2 (Nat.two_pow_pos t)
  have a1 := (Nat.le_log2 (by omega : m * 2 ^ t ≠ 0)).2 g1
  have a2 := (Nat.log2_lt (by omega : m * 2 ^ t ≠ 0)).2 g2
  omega

/-- 'near' with its result told by 'Is'. -/
theorem near_is (s : Bool) (mag : Nat) (place b : Int) (v : Nat) (hv : mag * 2 ^ (place - b).toNat = v) (h0 : 0 < mag) (hb : b ≤ place) (hb2 : b ≤ -1074) (hlo : -1022 - b ≤ v.log2) (hhi : v.log2 ≤ 900 - b) :
    ∃ k : Nat, Is (double.nearest s mag place) (sg s k) ∧ 2 ^ 53 * (k * 2 ^ (-1074 - b).toNat) ≤ (2 ^ 53 + 1) * v ∧ (2 ^ 53 - 1) * v ≤ 2 ^ 53 * (k * 2 ^ (-1074 - b).toNat) ∧
      ((∃ c d, v = c * 2 ^ d ∧ c < 2 ^ 53) → k * 2 ^ (-1074 - b).toNat = v) := by
  have hl : v.log2 = mag.log2 + (place - b).toNat := by rw [← hv]; exact log_add mag _ h0
  obtain ⟨k, p, e, p1, p2, p3, k1, k2, v1, v2, v3⟩ := near s mag place b h0 hb (by omega) (by omega) (by omega)
  have hk : k * 2 ^ (p + 1074).toNat * 2 ^ (-1074 - b).toNat = k * 2 ^ (p - b).toNat := by
    rw [Nat.mul_assoc, ← Nat.pow_add]
    have : (p + 1074).toNat + (-1074 - b).toNat = (p - b).toNat := by omega
    rw [this]
  refine ⟨k * 2 ^ (p + 1074).toNat, ⟨s, k, p, e, by omega, (signed_eq s k _).symm⟩, ?_⟩
  rw [hk]
  rw [hv] at v1 v2 v3
  refine ⟨v1, v2, ?_⟩
  rintro ⟨c, d, hcd, hc⟩
  refine v3 ?_
  by_cases hm : mag < 2 ^ 53
  · exact .inl hm
  · refine .inr ?_
    have hm52 : 53 ≤ mag.log2 := (Nat.le_log2 (by omega)).2 (by omega)
    -- v = c * 2 ^ d, c < 2 ^ 53: so d is great enough
    have hc0 : 0 < c := by
      rcases Nat.eq_zero_or_pos c with h | h
      · subst h; have : 0 < mag * 2 ^ (place - b).toNat := Nat.mul_pos h0 (Nat.two_pow_pos _); omega
      · exact h
    have hlc : v.log2 = c.log2 + d := by rw [hcd]; exact log_add c d hc0
    have hc52 : c.log2 < 53 := (Nat.log2_lt (by omega)).2 hc
    have hd : (place - b).toNat + (mag.log2 - 52) ≤ d := by omega
    have hdv : 2 ^ (mag.log2 - 52) * 2 ^ (place - b).toNat ∣ mag * 2 ^ (place - b).toNat := by
      rw [hv, hcd, ← Nat.pow_add]
      exact Nat.dvd_trans (Nat.pow_dvd_pow 2 (by omega)) (Nat.dvd_mul_left _ _)
    exact Nat.dvd_of_mul_dvd_mul_right (Nat.two_pow_pos _) hdv

theorem is_zero (s : Bool) (place : Int) : Is (double.nearest s 0 place) 0 := by
  unfold Format.nearest
  rw [if_pos rfl]
  cases s
  · exact ⟨false, 0, -1074, by decide, by omega, by decide⟩
  · exact ⟨true, 0, -1074, by decide, by omega, by decide⟩

/-- One, in units of 2 ^ -1074. -/
def eU : Nat := 1074
theorem eU_eq : eU = 1074 := rfl
attribute [irreducible] eU
def U : Nat := 2 ^ eU
theorem U_eq : U = 2 ^ eU := rfl
theorem U_pos : 0 < U := Nat.two_pow_pos _

/-- A whole number below 2 ^ 53, written. -/
theorem is_int (n : Int) (h : n.natAbs < 2 ^ 53) : Is (double.write (.number (n < 0) n.natAbs 0)) (n * (U : Int)) := by
  rw [U_eq]
  unfold Format.write
  by_cases h0 : n = 0
  · subst h0; rw [Int.zero_mul]; exact is_zero false 0
  · have hpos : 0 < n.natAbs := by omega
    have hE := eU_eq
    have hz : ((0 : Int) - -1074).toNat = eU := by omega
    have hl : (n.natAbs * 2 ^ eU).log2 = n.natAbs.log2 + eU := log_add _ _ hpos
    have hs : n.natAbs.log2 < 53 := (Nat.log2_lt (by omega)).2 h
    obtain ⟨k, hk, -, -, he⟩ := near_is (decide (n < 0)) n.natAbs 0 (-1074) (n.natAbs * 2 ^ eU) (by rw [hz]) hpos (by omega) (by omega) (by rw [hl]; omega) (by rw [hl]; omega)
    have := he ⟨n.natAbs, eU, rfl, h⟩
    rw [show ((-1074 : Int) - -1074).toNat = 0 from rfl, Nat.pow_zero, Nat.mul_one] at this
    rw [this] at hk
    have e : sg (decide (n < 0)) (n.natAbs * 2 ^ eU) = n * ((2 ^ eU : Nat) : Int) := by
      rw [sg_scale]
      have : sg (decide (n < 0)) n.natAbs = n := by unfold sg; by_cases h : n < 0 <;> simp [h] <;> omega
      rw [this]
    rw [e] at hk
    exact hk

theorem compare_scale (a b c : Int) (hc : 0 < c) : compare (a * c) (b * c) = compare a b := by
  have h1 : a * c < b * c ↔ a < b := Int.mul_lt_mul_right hc
  have h2 : a * c = b * c ↔ a = b := ⟨fun h => Int.eq_of_mul_eq_mul_right (by omega) h, fun h => by rw [h]⟩
  unfold compare instOrdInt
  simp only [compareOfLessAndEq, h1, h2]

theorem is_order {x y : Nat} {v v' : Int} (hx : Is x v) (hy : Is y v') : double.order x y = some (compare v v') := by
  obtain ⟨s, m, p, e, hp, rfl⟩ := hx
  obtain ⟨t, n, q, e', hq, rfl⟩ := hy
  unfold Format.order
  rw [e, e']
  simp only [Datum.order, signed_eq]
  have h1 : (p + 1074).toNat = (p - min p q).toNat + (min p q + 1074).toNat := by omega
  have h2 : (q + 1074).toNat = (q - min p q).toNat + (min p q + 1074).toNat := by omega
  rw [h1, h2, Nat.pow_add, Nat.pow_add, ← Nat.mul_assoc, ← Nat.mul_assoc, sg_scale s (m * _), sg_scale t (n * _), compare_scale _ _ _ (by have := Nat.two_pow_pos (min p q + 1074).toNat; omega)]

theorem cut_zero (s : Bool) (n d : Nat) : Toward.zero.cut s n d = n / 2 ^ d := by
  unfold Toward.cut
  simp only [Nat.one_shiftLeft, Bool.toNat_false, Nat.add_zero]
  by_cases h : d ≤ n.log2 + 2
  · rw [Nat.min_eq_left h]
  · rw [Nat.min_eq_right (by omega)]
    have h1 : n < 2 ^ (n.log2 + 1) := Nat.lt_log2_self
    have h2 : 2 ^ (n.log2 + 1) ≤ 2 ^ (n.log2 + 2) := Nat.pow_le_pow_right (by omega) (by omega)
    have h3 : 2 ^ (n.log2 + 1) ≤ 2 ^ d := Nat.pow_le_pow_right (by omega) (by omega)
    rw [Nat.div_eq_of_lt (by omega), Nat.div_eq_of_lt (by omega)]

theorem is_toInt {x : Nat} {v : Int} (hx : Is x v) : (double.read x).toInt .zero = some (v.tdiv (U : Int)) := by
  rw [U_eq]
  obtain ⟨s, m, p, e, hp, rfl⟩ := hx
  rw [e]
  simp only [Datum.toInt, Datum.integral, cut_zero, signed_eq, Nat.pow_zero, Nat.mul_one, Option.some.injEq]
  have hE := eU_eq
  have key : m <<< p.toNat / 2 ^ (-p).toNat = (m * 2 ^ (p + 1074).toNat) / 2 ^ eU := by
    rw [Nat.shiftLeft_eq]
    by_cases h : 0 ≤ p
    · rw [show (-p).toNat = 0 from by omega, Nat.pow_zero, Nat.div_one, show (p + 1074).toNat = p.toNat + eU from by omega, Nat.pow_add, ← Nat.mul_assoc, Nat.mul_div_cancel _ (Nat.two_pow_pos _)]
    · rw [show p.toNat = 0 from by omega, Nat.pow_zero, Nat.mul_one]
      have h1 : (2 : Nat) ^ eU = 2 ^ (-p).toNat * 2 ^ (p + 1074).toNat := by rw [← Nat.pow_add]; congr 1; omega
      rw [h1, Nat.mul_div_mul_right _ _ (Nat.two_pow_pos _)]
  rw [key]
  generalize m * 2 ^ (p + 1074).toNat = a
  generalize 2 ^ eU = g
  unfold sg
  cases s
  · simp only [Bool.false_eq_true, if_false]
    rw [Int.tdiv_eq_ediv_of_nonneg (by omega)]
    norm_cast
  · simp only [if_true]
    rw [Int.neg_tdiv, Int.tdiv_eq_ediv_of_nonneg (by omega)]
    norm_cast

theorem sg_of (s : Bool) (n : Nat) (h : 0 < n) : sg (decide (sg s n < 0)) n = sg s n := by rw [sg_neg s n h]

/-- A product: near to the exact one; just it where it fits. -/
theorem is_mul {x y : Nat} {v v' : Int} (hx : Is x v) (hy : Is y v') (h0 : v * v' ≠ 0) (hlo : 1126 ≤ (v * v').natAbs.log2) (hhi : (v * v').natAbs.log2 ≤ 3048) :
    ∃ (r k : Nat), double.mul x y = some r ∧ Is r (sg (decide (v * v' < 0)) k) ∧ 2 ^ 53 * (k * U) ≤ (2 ^ 53 + 1) * (v * v').natAbs ∧ (2 ^ 53 - 1) * (v * v').natAbs ≤ 2 ^ 53 * (k * U) ∧
      ((∃ c d, (v * v').natAbs = c * 2 ^ d ∧ c < 2 ^ 53) → k * U = (v * v').natAbs) := by
  obtain ⟨s, m, p, e, hp, rfl⟩ := hx
  obtain ⟨t, n, q, e', hq, rfl⟩ := hy
  have hE := eU_eq
  rw [signed_eq, signed_eq, sg_mul] at h0 hlo hhi ⊢
  rw [sg_abs] at hlo hhi ⊢
  have hpos : 0 < m * 2 ^ (p + 1074).toNat * (n * 2 ^ (q + 1074).toNat) := by
    rcases Nat.eq_zero_or_pos (m * 2 ^ (p + 1074).toNat * (n * 2 ^ (q + 1074).toNat)) with h | h
    · rw [h] at h0; exact absurd (by unfold sg; simp) h0
    · exact h
  rw [sg_neg _ _ hpos]
  have hv : m * n * 2 ^ (p + q - -2148).toNat = m * 2 ^ (p + 1074).toNat * (n * 2 ^ (q + 1074).toNat) := by
    rw [show (p + q - -2148).toNat = (p + 1074).toNat + (q + 1074).toNat from by omega, Nat.pow_add]
    ac_rfl
  have hmn : 0 < m * n := by
    rcases Nat.eq_zero_or_pos (m * n) with h | h
    · rw [h, Nat.zero_mul] at hv; omega
    · exact h
  generalize m * 2 ^ (p + 1074).toNat * (n * 2 ^ (q + 1074).toNat) = A at *
  obtain ⟨k, hk, h1, h2, h3⟩ := near_is (s ^^ t) (m * n) (p + q) (-2148) A hv hmn (by omega) (by omega) (by omega) (by omega)
  have hu : 2 ^ ((-1074 : Int) - -2148).toNat = U := by rw [U_eq]; congr 1; omega
  rw [hu] at h1 h2 h3
  refine ⟨_, k, ?_, hk, h1, h2, h3⟩
  unfold Format.mul
  rw [e, e']
  rfl

theorem is_sum {x : Nat} {d : Datum} {v v' : Int} (hx : Is x v) (hy : ∃ t n q, d = .number t n q ∧ -1074 ≤ q ∧ v' = signed t n (q + 1074).toNat) (h0 : v + v' ≠ 0) (hlo : 52 ≤ (v + v').natAbs.log2) (hhi : (v + v').natAbs.log2 ≤ 1974) :
    ∃ (r k : Nat), (((double.read x).sum d).map double.write) = some r ∧ Is r (sg (decide (v + v' < 0)) k) ∧ 2 ^ 53 * k ≤ (2 ^ 53 + 1) * (v + v').natAbs ∧ (2 ^ 53 - 1) * (v + v').natAbs ≤ 2 ^ 53 * k ∧
      ((∃ c d, (v + v').natAbs = c * 2 ^ d ∧ c < 2 ^ 53) → k = (v + v').natAbs) := by
  obtain ⟨s, m, p, e, hp, rfl⟩ := hx
  obtain ⟨t, n, q, e', hq, rfl⟩ := hy
  obtain ⟨B, hB⟩ : ∃ B : Nat, (min p q + 1074).toNat = B := ⟨_, rfl⟩
  have h1 : (p + 1074).toNat = (p - min p q).toNat + B := by omega
  have h2 : (q + 1074).toNat = (q - min p q).toNat + B := by omega
  have htot : signed s m (p + 1074).toNat + signed t n (q + 1074).toNat = (signed s m (p - min p q).toNat + signed t n (q - min p q).toNat) * ((2 ^ B : Nat) : Int) := by
    rw [signed_eq, signed_eq, signed_eq, signed_eq, h1, h2, Nat.pow_add, Nat.pow_add, ← Nat.mul_assoc, ← Nat.mul_assoc, sg_scale s (m * _), sg_scale t (n * _), Int.add_mul]
  rw [htot] at h0 hlo hhi ⊢
  rw [e, e']
  simp only [Datum.sum]
  generalize signed s m (p - min p q).toNat + signed t n (q - min p q).toNat = tot at *
  have hB0 : (0 : Int) < ((2 ^ B : Nat) : Int) := by have := Nat.two_pow_pos B; omega
  have ht0 : tot ≠ 0 := fun h => h0 (by rw [h, Int.zero_mul])
  have hsg : decide (tot * ((2 ^ B : Nat) : Int) < 0) = decide (tot < 0) := by
    congr 1
    refine propext ⟨fun h => ?_, fun h => Int.mul_neg_of_neg_of_pos h hB0⟩
    rcases Int.lt_or_le tot 0 with g | g
    · exact g
    · have := Int.mul_nonneg g (Int.le_of_lt hB0); omega
  have hab : (tot * ((2 ^ B : Nat) : Int)).natAbs = tot.natAbs * 2 ^ B := by rw [Int.natAbs_mul, Int.natAbs_natCast]
  rw [hsg]
  rw [hab] at hlo hhi ⊢
  obtain ⟨k, hk, g1, g2, g3⟩ := near_is (decide (tot < 0)) tot.natAbs (min p q) (-1074) (tot.natAbs * 2 ^ B) (by rw [← hB]; congr 2) (by omega) (by omega) (by omega) (by omega) (by omega)
  rw [show ((-1074 : Int) - -1074).toNat = 0 from rfl, Nat.pow_zero, Nat.mul_one] at g1 g2 g3
  refine ⟨_, k, ?_, hk, g1, g2, g3⟩
  rw [if_neg ht0]
  rfl

theorem is_add {x y : Nat} {v v' : Int} (hx : Is x v) (hy : Is y v') (h0 : v + v' ≠ 0) (hlo : 52 ≤ (v + v').natAbs.log2) (hhi : (v + v').natAbs.log2 ≤ 1974) :
    ∃ (r k : Nat), double.add x y = some r ∧ Is r (sg (decide (v + v' < 0)) k) ∧ 2 ^ 53 * k ≤ (2 ^ 53 + 1) * (v + v').natAbs ∧ (2 ^ 53 - 1) * (v + v').natAbs ≤ 2 ^ 53 * k ∧
      ((∃ c d, (v + v').natAbs = c * 2 ^ d ∧ c < 2 ^ 53) → k = (v + v').natAbs) :=
  is_sum hx hy h0 hlo hhi

theorem is_sub {x y : Nat} {v v' : Int} (hx : Is x v) (hy : Is y v') (h0 : v - v' ≠ 0) (hlo : 52 ≤ (v - v').natAbs.log2) (hhi : (v - v').natAbs.log2 ≤ 1974) :
    ∃ (r k : Nat), double.sub x y = some r ∧ Is r (sg (decide (v - v' < 0)) k) ∧ 2 ^ 53 * k ≤ (2 ^ 53 + 1) * (v - v').natAbs ∧ (2 ^ 53 - 1) * (v - v').natAbs ≤ 2 ^ 53 * k ∧
      ((∃ c d, (v - v').natAbs = c * 2 ^ d ∧ c < 2 ^ 53) → k = (v - v').natAbs) := by
  rw [show v - v' = v + -v' from by omega] at h0 hlo hhi ⊢
  refine is_sum hx ?_ h0 hlo hhi
  obtain ⟨t, n, q, e', hq, rfl⟩ := hy
  refine ⟨!t, n, q, by rw [e']; rfl, hq, ?_⟩
  rw [signed_eq, signed_eq]
  unfold sg
  cases t <;> simp

/-- A product with nothing. -/
theorem is_mul_zero {x y : Nat} {v v' : Int} (hx : Is x v) (hy : Is y v') (h0 : v * v' = 0) : ∃ r : Nat, double.mul x y = some r ∧ Is r 0 := by
  obtain ⟨s, m, p, e, hp, rfl⟩ := hx
  obtain ⟨t, n, q, e', hq, rfl⟩ := hy
  rw [signed_eq, signed_eq, sg_mul] at h0
  have hz : m * 2 ^ (p + 1074).toNat * (n * 2 ^ (q + 1074).toNat) = 0 := by
    have := congrArg Int.natAbs h0
    rwa [sg_abs] at this
  have hmn : m * n = 0 := by
    rcases Nat.mul_eq_zero.1 hz with h | h
    · rcases Nat.mul_eq_zero.1 h with h | h
      · rw [h, Nat.zero_mul]
      · exact absurd h (by have := Nat.two_pow_pos (p + 1074).toNat; omega)
    · rcases Nat.mul_eq_zero.1 h with h | h
      · rw [h, Nat.mul_zero]
      · exact absurd h (by have := Nat.two_pow_pos (q + 1074).toNat; omega)
  refine ⟨double.nearest (s ^^ t) 0 (p + q), ?_, is_zero _ _⟩
  unfold Format.mul
  rw [e, e']
  simp only [Datum.product, hmn, Option.map_some, Format.write]

def H : Nat := 2 ^ (eU - 1)
theorem U_two : U = 2 * H := by
  have hE := eU_eq
  unfold U H
  rw [show eU = (eU - 1) + 1 from by omega, Nat.pow_succ]
  rw [show eU - 1 + 1 - 1 = eU - 1 from by omega]
  omega
theorem H_pos : 0 < H := Nat.two_pow_pos _

theorem is_of_read {w m : Nat} {p : Nat} {s : Bool} (h : double.read w = .number s m p) : Is w (sg s (m * 2 ^ p) * (U : Int)) := by
  refine ⟨s, m, p, h, by omega, ?_⟩
  have hE := eU_eq
  rw [signed_eq, show ((p : Int) + 1074).toNat = p + eU from by omega, Nat.pow_add, ← Nat.mul_assoc, ← sg_scale, U_eq]

theorem is_half : Is 4602678819172646912 (H : Int) := by
  have hE := eU_eq
  refine ⟨false, 2 ^ 52, -53, by decide, by omega, ?_⟩
  rw [signed_eq]
  unfold sg H
  rw [← Nat.pow_add, show 52 + ((-53 : Int) + 1074).toNat = eU - 1 from by omega]
  rfl

theorem is_lo : Is 14099575734042281984 (-1000000000000000000 * (U : Int)) := is_of_read (s := true) (m := 7812500000000000) (p := 7) (by decide)
theorem is_hi : Is 4876203697187506176 (1000000000000000000 * (U : Int)) := is_of_read (s := false) (m := 7812500000000000) (p := 7) (by decide)
theorem is_null : Is 0 0 := ⟨false, 0, -1074, by decide, by omega, by decide⟩

theorem cmp_lt {a b : Int} (h : a < b) : compare a b = .lt := Int.compare_eq_lt.2 h
theorem cmp_gt {a b : Int} (h : b < a) : compare a b = .gt := Int.compare_eq_gt.2 h
theorem cmp_eq {a b : Int} (h : a = b) : compare a b = .eq := Int.compare_eq_eq.2 h

theorem scale_lt {a b : Int} (h : a < b) : a * (U : Int) < b * (U : Int) := Int.mul_lt_mul_of_pos_right h (by have := U_pos; omega)

/-- What stands for a whole number n lies between the two bounds. -/
theorem order_lo {w : Nat} {n : Int} (h : Is w (n * (U : Int))) (hn : -1000000000000000000 < n) : double.order w 14099575734042281984 = some .gt := by
  rw [is_order h is_lo, cmp_gt (scale_lt hn)]
theorem order_hi {w : Nat} {n : Int} (h : Is w (n * (U : Int))) (hn : n < 1000000000000000000) : double.order w 4876203697187506176 = some .lt := by
  rw [is_order h is_hi, cmp_lt (scale_lt hn)]
theorem order_neg {w : Nat} {v : Int} (h : Is w v) (hn : v < 0) : double.order w 0 = some .lt := by rw [is_order h is_null, cmp_lt hn]
theorem order_nonneg {w : Nat} {v : Int} (h : Is w v) (hn : 0 ≤ v) : (double.order w 0 == some .lt) = false := by
  rw [is_order h is_null]
  rcases Int.lt_or_eq_of_le hn with g | g
  · rw [cmp_gt g]; rfl
  · rw [cmp_eq g.symm]; rfl

theorem tdiv_of (v n : Int) (h0 : 0 ≤ n) (h1 : n * (U : Int) ≤ v) (h2 : v < n * (U : Int) + U) : v.tdiv (U : Int) = n := by
  have hU := U_pos
  have hp : 0 ≤ n * (U : Int) := Int.mul_nonneg h0 (by omega)
  rw [Int.tdiv_eq_ediv_of_nonneg (by omega)]
  have h3 : v = (v - n * U) + n * U := by omega
  rw [h3, Int.add_mul_ediv_right _ _ (by omega), Int.ediv_eq_zero_of_lt (by omega) (by omega)]
  omega

theorem toInt_of {w : Nat} {v n : Int} (hw : Is w v) (hv : v.tdiv (U : Int) = n) (h1 : -9223372036854775808 ≤ n) (h2 : n ≤ 9223372036854775807) : Go.floatToIntVal .f64 w .i64 = some n := by
  unfold Go.floatToIntVal
  have e : (Go.FloatKind.decode .f64 w) = double.read w := rfl
  rw [e, is_toInt hw, hv]
  simp only
  have g1 : Go.IntKind.min .i64 = -9223372036854775808 := by decide
  have g2 : Go.IntKind.max .i64 = 9223372036854775807 := by decide
  rw [if_pos ⟨by rw [g1]; exact h1, by rw [g2]; exact h2⟩]

theorem log_small {c d : Nat} (h0 : 0 < c) (h : c < 2 ^ 53) : (c * 2 ^ d).log2 < 53 + d ∧ d ≤ (c * 2 ^ d).log2 := by
  rw [log_add c d h0]
  have := (Nat.log2_lt (by omega : c ≠ 0)).2 h
  omega

/-- What 'round' does with a whole number: nothing. -/
theorem round_whole {w : Nat} {n : Int} (h : Is w (n * (U : Int))) (hn : n.natAbs < 2 ^ 51) :
    (n < 0 → double.order w 0 = some .lt ∧ ∃ r, double.sub w 4602678819172646912 = some r ∧ Go.floatToIntVal .f64 r .i64 = some n) ∧
    (0 ≤ n → (double.order w 0 == some .lt) = false ∧ ∃ r, double.add w 4602678819172646912 = some r ∧ Go.floatToIntVal .f64 r .i64 = some n) := by
  have hU := U_pos
  have hH := H_pos
  have hUH := U_two
  have hE := eU_eq
  constructor
  · intro hneg
    have hv : n * (U : Int) < 0 := Int.mul_neg_of_neg_of_pos hneg (by omega)
    refine ⟨order_neg h hv, ?_⟩
    have e1 : (n * (U : Int) - H).natAbs = (2 * n.natAbs + 1) * 2 ^ (eU - 1) := by
      have : n * (U : Int) - H = -(((2 * n.natAbs + 1) * H : Nat) : Int) := by
        rw [hUH]; push_cast
        have : (n.natAbs : Int) = -n := by omega
        rw [this, Int.add_mul, Int.mul_assoc, Int.neg_mul]
        have : n * (2 * (H : Int)) = 2 * (n * H) := by ac_rfl
        rw [this]; omega
      rw [this, Int.natAbs_neg, Int.natAbs_natCast]; rfl
    obtain ⟨g1, g2⟩ := log_small (c := 2 * n.natAbs + 1) (d := eU - 1) (by omega) (by omega)
    obtain ⟨r, k, hr, hk, -, -, he⟩ := is_sub h is_half (by omega) (by rw [e1]; omega) (by rw [e1]; omega)
    have hk2 := he ⟨_, _, e1, by omega⟩
    refine ⟨r, hr, ?_⟩
    have hneg2 : decide (n * (U : Int) - H < 0) = true := decide_eq_true (by omega)
    rw [hneg2] at hk
    have hval : sg true k = n * (U : Int) - H := by unfold sg; rw [hk2]; simp only [if_true]; omega
    rw [hval] at hk
    refine toInt_of hk ?_ (by omega) (by omega)
    have := tdiv_of (-(n * (U : Int) - H)) (-n) (by omega) (by rw [Int.neg_mul]; omega) (by rw [Int.neg_mul]; omega)
    rw [Int.neg_tdiv] at this
    omega
  · intro hpos
    have hv : 0 ≤ n * (U : Int) := Int.mul_nonneg hpos (by omega)
    refine ⟨order_nonneg h hv, ?_⟩
    have e1 : (n * (U : Int) + H).natAbs = (2 * n.natAbs + 1) * 2 ^ (eU - 1) := by
      have : n * (U : Int) + H = (((2 * n.natAbs + 1) * H : Nat) : Int) := by
        rw [hUH]; push_cast
        have : (n.natAbs : Int) = n := by omega
        rw [this, Int.add_mul, Int.mul_assoc]
        have : n * (2 * (H : Int)) = 2 * (n * H) := by ac_rfl
        rw [this]; omega
      rw [this, Int.natAbs_natCast]; rfl
    obtain ⟨g1, g2⟩ := log_small (c := 2 * n.natAbs + 1) (d := eU - 1) (by omega) (by omega)
    obtain ⟨r, k, hr, hk, -, -, he⟩ := is_add h is_half (by omega) (by rw [e1]; omega) (by rw [e1]; omega)
    have hk2 := he ⟨_, _, e1, by omega⟩
    refine ⟨r, hr, ?_⟩
    have hneg2 : decide (n * (U : Int) + H < 0) = false := decide_eq_false (by omega)
    rw [hneg2] at hk
    have hval : sg false k = n * (U : Int) + H := by unfold sg; rw [hk2]; simp only [Bool.false_eq_true, if_false]; omega
    rw [hval] at hk
    exact toInt_of hk (tdiv_of _ n hpos (by omega) (by omega)) (by omega) (by omega)

/-- The product of two whole numbers. -/
theorem mul_whole {x y : Nat} {a k : Int} (hx : Is x (a * (U : Int))) (hy : Is y (k * (U : Int))) (h : (a * k).natAbs < 2 ^ 53) : ∃ r, double.mul x y = some r ∧ Is r (a * k * (U : Int)) := by
  have hU := U_pos
  have hE := eU_eq
  have em : a * (U : Int) * (k * (U : Int)) = a * k * (U * U : Nat) := by push_cast; ac_rfl
  by_cases h0 : a * k = 0
  · obtain ⟨r, hr, hz⟩ := is_mul_zero hx hy (by rw [em, h0, Int.zero_mul])
    exact ⟨r, hr, by rw [h0, Int.zero_mul]; exact hz⟩
  · have hUU : 0 < U * U := Nat.mul_pos hU hU
    have ea : (a * (U : Int) * (k * (U : Int))).natAbs = (a * k).natAbs * 2 ^ (eU + eU) := by
      rw [em, Int.natAbs_mul, Int.natAbs_natCast, U_eq, ← Nat.pow_add]
    obtain ⟨g1, g2⟩ := log_small (c := (a * k).natAbs) (d := eU + eU) (by omega) h
    have hne : a * (U : Int) * (k * (U : Int)) ≠ 0 := by
      rw [em]; intro hc
      rcases Int.mul_eq_zero.1 hc with g | g
      · exact h0 g
      · omega
    obtain ⟨r, c, hr, hk, -, -, he⟩ := is_mul hx hy hne (by rw [ea]; omega) (by rw [ea]; omega)
    have hc := he ⟨_, _, ea, h⟩
    refine ⟨r, hr, ?_⟩
    have hc2 : c * U = (a * k).natAbs * U * U := by rw [hc, ea, U_eq, Nat.pow_add, Nat.mul_assoc]
    have hc3 : c = (a * k).natAbs * U := Nat.eq_of_mul_eq_mul_right hU hc2
    have hs : sg (decide (a * (U : Int) * (k * (U : Int)) < 0)) c = a * k * U := by
      have hsgn : decide (a * (U : Int) * (k * (U : Int)) < 0) = decide (a * k < 0) := by
        rw [em]; congr 1
        refine propext ⟨fun g => ?_, fun g => Int.mul_neg_of_neg_of_pos g (by omega)⟩
        rcases Int.lt_or_le (a * k) 0 with q | q
        · exact q
        · have := Int.mul_nonneg q (show (0 : Int) ≤ (U * U : Nat) by omega); omega
      rw [hsgn, hc3, sg_scale]
      congr 1
      unfold sg
      by_cases q : a * k < 0 <;> simp [q] <;> omega
    rw [hs] at hk
    exact hk

/-- What is written is no NaN: it is equal to itself. -/
theorem order_self (s : Bool) (mag : Nat) (place : Int) : double.order (double.nearest s mag place) (double.nearest s mag place) = some .eq := by
  have hw : ∃ rung, rung ≤ 2047 * 2 ^ 52 ∧ double.nearest s mag place = double.word s rung := by
    unfold Format.nearest
    by_cases h : mag = 0
    · rw [if_pos h]; exact ⟨0, by omega, rfl⟩
    · rw [if_neg h]; exact ⟨_, by rw [inf]; exact Nat.min_le_right _ _, rfl⟩
  obtain ⟨rung, hr, e⟩ := hw
  rw [e]
  have h2 : double.word s rung % 2 ^ 63 = rung := by
    unfold Format.word; rw [sw]; cases s <;> simp <;> omega
  have hd : (∃ s' m p, double.read (double.word s rung) = .number s' m p) ∨ ∃ s', double.read (double.word s rung) = .infinity s' := by
    unfold Format.read
    simp only [sw, bin, inf, lp]
    rw [h2]
    by_cases a : rung < 2 ^ 52
    · rw [if_pos a]; exact .inl ⟨_, _, _, rfl⟩
    · rw [if_neg a]
      by_cases b : rung < 2047 * 2 ^ 52
      · rw [if_pos b]; exact .inl ⟨_, _, _, rfl⟩
      · rw [if_neg b, if_pos (by omega)]; exact .inr ⟨_, rfl⟩
  unfold Format.order
  rcases hd with ⟨s', m, p, q⟩ | ⟨s', q⟩
  · rw [q]; simp only [Datum.order]; rw [cmp_eq rfl]
  · rw [q]; simp only [Datum.order]; cases s' <;> rfl

/-- A quotient by a number that is not nothing is there, and equal to itself. -/
theorem div_there {x y : Nat} {v : Int} (hx : Is x v) {t : Bool} {n : Nat} {q : Int} (hy : double.read y = .number t n q) (hn : n ≠ 0) : ∃ r, double.div x y = some r ∧ double.order r r = some .eq := by
  obtain ⟨s, m, p, e, hp, rfl⟩ := hx
  unfold Format.div
  rw [e, hy]
  simp only [Datum.quotient, if_neg hn, Option.map_some]
  exact ⟨_, rfl, order_self _ _ _⟩

/-- The word of ten to the power of eight. -/
theorem read_e8 : double.read 4726483295884279808 = .number false 6710886400000000 (-26) := by decide
theorem is_e8 : Is 4726483295884279808 (100000000 * (U : Int)) := by
  have hE := eU_eq
  refine ⟨false, 6710886400000000, -26, read_e8, by omega, ?_⟩
  have h : (6710886400000000 : Nat) * 2 ^ ((-26 : Int) + 1074).toNat = 100000000 * 2 ^ eU := by
    have h1 : (6710886400000000 : Nat) = 100000000 * 2 ^ 26 := by decide
    have h2 : ((-26 : Int) + 1074).toNat + 26 = eU := by omega
    rw [h1, Nat.mul_assoc, ← h2, Nat.pow_add, Nat.mul_comm (2 ^ 26)]
  have h3 : signed false 6710886400000000 ((-26 : Int) + 1074).toNat = ((100000000 * 2 ^ eU : Nat) : Int) := by
    rw [signed_eq, h]; rfl
  rw [h3, Int.natCast_mul, U_eq]
  rfl

theorem q_core (D qy ry ty y N k : Nat) (e1 : D = 6710886400000000 * qy + ry) (e2 : D = 2 ^ 25 * N) (e4 : ry ≤ 6710886400000000 * ty) (e5 : ty ≤ 1 * y) (e6 : 2 ^ 53 * y ≤ qy)
    (b1 : 2 ^ 53 * k ≤ (2 ^ 53 + 1) * (2 * qy + ty)) (b2 : (2 ^ 53 - 1) * (2 * qy + ty) ≤ 2 ^ 53 * k) :
    2 ^ 60 * (k * 100000000) ≤ (2 ^ 60 + 193) * N ∧ (2 ^ 60 - 193) * N ≤ 2 ^ 60 * (k * 100000000) := by
  omega

theorem log_hi (x : Nat) (h0 : 0 < x) (h : x < 2 ^ 53 * U) : x.log2 ≤ 52 + eU := by
  have : x.log2 < 53 + eU := (Nat.log2_lt (by omega)).2 (by rw [Nat.pow_add, ← U_eq]; exact h)
  omega
theorem log_lo (x : Nat) (h : H ≤ x) : 52 ≤ x.log2 := by
  have hE := eU_eq
  have h1 : 2 ^ (eU - 1) ≤ x := h
  have h2 := Nat.two_pow_pos (eU - 1)
  have : eU - 1 ≤ x.log2 := (Nat.le_log2 (by omega)).2 h1
  omega

/-- A whole number of at most fifty bits, over ten to the power of eight: near to it. -/
theorem div_e8 (n : Int) (h0 : n ≠ 0) (hn : n.natAbs < 2 ^ 50) : ∃ (f k : Nat), double.div (double.write (.number (n < 0) n.natAbs 0)) 4726483295884279808 = some f ∧ Is f (sg (decide (n < 0)) k) ∧
    2 ^ 60 * (k * 100000000) ≤ (2 ^ 60 + 193) * (n.natAbs * U) ∧ (2 ^ 60 - 193) * (n.natAbs * U) ≤ 2 ^ 60 * (k * 100000000) := by
  have hE := eU_eq
  have hpos : 0 < n.natAbs := by omega
  have hlg : n.natAbs.log2 < 50 := (Nat.log2_lt (by omega)).2 hn
  obtain ⟨m, p, e, p1, p2, p3, m1, m2, -, -, hx⟩ := near (decide (n < 0)) n.natAbs 0 (-1074) hpos (by omega) (by omega) (by omega) (by omega)
  have hx' := hx (.inl (by omega))
  rw [show ((0 : Int) - -1074).toNat = eU from by omega, show (p - -1074).toNat = (p + 1074).toNat from by omega, ← U_eq] at hx'
  have hm0 : 0 < m := by omega
  have hml : m.log2 = 52 := by
    have a := (Nat.le_log2 (by omega : m ≠ 0)).2 m1
    have b := (Nat.log2_lt (by omega : m ≠ 0)).2 m2
    omega
  have hpu : p < 0 := by
    rcases Int.lt_or_le p 0 with g | g
    · exact g
    · exfalso
      have a1 : 2 ^ 52 * 2 ^ eU ≤ m * 2 ^ (p + 1074).toNat := Nat.mul_le_mul m1 (Nat.pow_le_pow_right (by omega) (by omega))
      rw [hx', U_eq] at a1
      have a2 : n.natAbs * 2 ^ eU < 2 ^ 52 * 2 ^ eU := Nat.mul_lt_mul_of_pos_right (by omega) (Nat.two_pow_pos _)
      omega
  have h8l : Nat.log2 6710886400000000 = 52 := by decide
  -- the quotient
  obtain ⟨q, r, t, hq, hr, hrt, ht, hmag⟩ : ∃ q r t, m * 2 ^ 54 = 6710886400000000 * q + r ∧ r < 6710886400000000 ∧ r ≤ 6710886400000000 * t ∧ t ≤ 1 ∧ 2 * (m <<< 54 / 6710886400000000) + (m <<< 54 % 6710886400000000 != 0).toNat = 2 * q + t := by
    refine ⟨m <<< 54 / 6710886400000000, m <<< 54 % 6710886400000000, (m <<< 54 % 6710886400000000 != 0).toNat, ?_, Nat.mod_lt _ (by decide), ?_, ?_, rfl⟩
    · rw [← Nat.shiftLeft_eq]; exact (Nat.div_add_mod _ _).symm
    · have hlt := Nat.mod_lt (m <<< 54) (show 0 < 6710886400000000 by decide)
      by_cases hz : m <<< 54 % 6710886400000000 = 0
      · rw [hz]; exact Nat.zero_le _
      · rw [show (m <<< 54 % 6710886400000000 != 0) = true from bne_iff_ne.2 hz]; simp only [Bool.toNat_true, Nat.mul_one]; exact Nat.le_of_lt hlt
    · cases (m <<< 54 % 6710886400000000 != 0) <;> decide
  have hq1 : 2 ^ 53 ≤ q := by omega
  have hq2 : q < 2 ^ 55 := by omega
  have hmp : 0 < 2 * q + t := by omega
  have hl1 : 54 ≤ (2 * q + t).log2 := (Nat.le_log2 (by omega)).2 (by omega)
  have hl2 : (2 * q + t).log2 < 57 := (Nat.log2_lt (by omega)).2 (by omega)
  have hlv : ((2 * q + t) * 2 ^ (p - 29 - -1074).toNat).log2 = (2 * q + t).log2 + (p - 29 - -1074).toNat := log_add _ _ hmp
  obtain ⟨k, hk, b1, b2, -⟩ := near_is (decide (n < 0)) (2 * q + t) (p - 29) (-1074) _ rfl hmp (by omega) (by omega) (by omega) (by omega)
  rw [show ((-1074 : Int) - -1074).toNat = 0 from rfl, Nat.pow_zero, Nat.mul_one] at b1 b2
  refine ⟨_, k, ?_, hk, ?_⟩
  · unfold Format.div Format.write
    rw [e, read_e8]
    have hd : double.fractionBits + 2 = 54 := rfl
    have hmore : 54 + Nat.log2 6710886400000000 - m.log2 = 54 := by rw [h8l, hml]
    simp only [Datum.quotient, hd]
    rw [hmore, hmag]
    simp only [Bool.xor_false]
    rw [show p - -26 - ((54 : Nat) : Int) - 1 = p - 29 from by omega]
    rfl
  · -- v = (2 q + t) * 2 ^ (p + 1045), and v * 10 ^ 8 is near to n * U
    have hs : (p + 1074).toNat = 29 + (p - 29 - -1074).toNat := by omega
    generalize (p - 29 - -1074).toNat = z at *
    rw [hs, Nat.pow_add] at hx'
    generalize 2 ^ z = y at *
    generalize n.natAbs * U = N at *
    have hxx : m * 2 ^ 29 * y = N := by rw [← hx', Nat.mul_assoc]
    -- everything times y
    have e1 : m * 2 ^ 54 * y = 6710886400000000 * (q * y) + r * y := by rw [hq, Nat.add_mul, Nat.mul_assoc]
    have e2 : m * 2 ^ 54 * y = 2 ^ 25 * N := by
      rw [← hxx, show (2 : Nat) ^ 54 = 2 ^ 25 * 2 ^ 29 from by decide]; ac_rfl
    have e3 : (2 * q + t) * y = 2 * (q * y) + t * y := by rw [Nat.add_mul, Nat.mul_assoc]
    have e4 : r * y ≤ 6710886400000000 * (t * y) := by rw [← Nat.mul_assoc]; exact Nat.mul_le_mul_right _ hrt
    have e5 : t * y ≤ 1 * y := Nat.mul_le_mul_right _ ht
    have e6 : 2 ^ 53 * y ≤ q * y := Nat.mul_le_mul_right _ hq1
    rw [e3] at b1 b2
    exact q_core _ _ _ _ _ _ _ e1 e2 e4 e5 e6 b1 b2

/-- The sign turned. -/
theorem is_neg {x : Nat} {v : Int} (hx : Is x v) : Is (Go.Op.negFloat .f64 x) (-v) := by
  obtain ⟨s, m, p, e, hp, rfl⟩ := hx
  refine ⟨!s, m, p, ?_, hp, ?_⟩
  · have e0 : Go.Op.negFloat .f64 x = x ^^^ 2 ^ 63 := rfl
    rw [e0]
    have h1 : (x ^^^ 2 ^ 63) % 2 ^ 63 = x % 2 ^ 63 := by
      rw [Nat.xor_mod_two_pow, Nat.mod_self, Nat.xor_zero]
    have h2 : ((x ^^^ 2 ^ 63) / 2 ^ 63 % 2 == 1) = !(x / 2 ^ 63 % 2 == 1) := by
      have : (x ^^^ 2 ^ 63) / 2 ^ 63 = (x / 2 ^ 63) ^^^ 1 := by
        rw [← Nat.shiftRight_eq_div_pow, ← Nat.shiftRight_eq_div_pow, Nat.shiftRight_xor_distrib]
        congr 1
      rw [this]
      rw [show (x / 2 ^ 63 ^^^ 1) % 2 = (x / 2 ^ 63 % 2) ^^^ (1 % 2) from by have := Nat.xor_mod_two_pow (a := x / 2 ^ 63) (b := 1) (n := 1); simpa using this]
      rcases Nat.mod_two_eq_zero_or_one (x / 2 ^ 63) with h | h <;> rw [h] <;> decide
    unfold Format.read at e ⊢
    simp only [sw, bin, inf, lp] at e ⊢
    rw [h1, h2]
    generalize (x / 2 ^ 63 % 2 == 1) = sx at *
    generalize x % 2 ^ 63 = rg at *
    by_cases a : rg < 2 ^ 52
    · rw [if_pos a] at e ⊢
      injection e with e1 e2 e3
      rw [e1, e2, e3]
    · rw [if_neg a] at e ⊢
      by_cases b : rg < 2047 * 2 ^ 52
      · rw [if_pos b] at e ⊢
        injection e with e1 e2 e3
        rw [e1, e2, e3]
      · rw [if_neg b] at e
        split at e <;> cases e
  · rw [signed_eq, signed_eq]
    unfold sg
    cases s <;> simp

/-- The greatest double is a great one. -/
theorem is_max : ∃ c : Int, Is 9218868437227405311 (c * (U : Int)) ∧ 10000000000 ≤ c :=
  ⟨_, is_of_read (w := 9218868437227405311) (s := false) (m := 9007199254740991) (p := 971) (by decide), by decide +kernel⟩

/-- A number of base units, told in whole ones, as a double, and back. -/
theorem amount_there (n : Int) (hn : n.natAbs ≤ 1000000000000000) (h0 : n ≠ 0) : ∃ (f : Nat) (vf : Int) (g r : Nat), double.div (double.write (.number (n < 0) n.natAbs 0)) 4726483295884279808 = some f ∧ Is f vf ∧ -20000000 * (U : Int) < vf ∧ vf < 20000000 * (U : Int) ∧
    double.mul f 4726483295884279808 = some g ∧
    ((n < 0 ∧ double.order g 0 = some .lt ∧ double.sub g 4602678819172646912 = some r ∧ Go.floatToIntVal .f64 r .i64 = some n) ∨
     (0 < n ∧ (double.order g 0 == some .lt) = false ∧ double.add g 4602678819172646912 = some r ∧ Go.floatToIntVal .f64 r .i64 = some n)) := by
  have hU := U_pos
  have hUH := U_two
  have hE := eU_eq
  obtain ⟨f, k, hf, hk, b1, b2⟩ := div_e8 n h0 (by omega)
  have hN1 : 1 * U ≤ n.natAbs * U := Nat.mul_le_mul_right _ (by omega)
  have hN2 : n.natAbs * U ≤ 1000000000000000 * U := Nat.mul_le_mul_right _ hn
  -- the product
  obtain ⟨N, hN⟩ : ∃ N, n.natAbs * U = N := ⟨_, rfl⟩
  rw [hN] at b1 b2 hN1 hN2
  have hkpos : 0 < k := by omega
  have hprod : (sg (decide (n < 0)) k * (100000000 * (U : Int))).natAbs = k * 100000000 * U := by
    rw [Int.natAbs_mul, sg_abs, Nat.mul_assoc]
    congr 1
  have hKU1 : 1 * U ≤ 2 * (k * 100000000) := by omega
  have hKU2 : k * 100000000 < 2 ^ 51 * U := by omega
  have hne : sg (decide (n < 0)) k * (100000000 * (U : Int)) ≠ 0 := by
    intro h
    have := congrArg Int.natAbs h
    rw [hprod] at this
    have : 0 < k * 100000000 * U := Nat.mul_pos (by omega) hU
    omega
  have hH2 : H = 2 ^ (eU - 1) := rfl
  have hlo : eU - 1 ≤ (k * 100000000).log2 := (Nat.le_log2 (by omega)).2 (by omega)
  have hhi : (k * 100000000).log2 < 51 + eU := (Nat.log2_lt (by omega)).2 (by rw [Nat.pow_add, ← U_eq]; exact hKU2)
  have hll : (k * 100000000 * U).log2 = (k * 100000000).log2 + eU := by rw [U_eq]; exact log_add _ _ (by omega)
  obtain ⟨g, kg, hg, hkg, c1, c2, -⟩ := is_mul hk is_e8 hne (by rw [hprod, hll]; omega) (by rw [hprod, hll]; omega)
  rw [hprod] at c1 c2
  have c1' : 2 ^ 53 * kg ≤ (2 ^ 53 + 1) * (k * 100000000) :=
    Nat.le_of_mul_le_mul_right (by rw [Nat.mul_assoc (2 ^ 53), Nat.mul_assoc (2 ^ 53 + 1)]; exact c1) hU
  have c2' : (2 ^ 53 - 1) * (k * 100000000) ≤ 2 ^ 53 * kg :=
    Nat.le_of_mul_le_mul_right (by rw [Nat.mul_assoc (2 ^ 53), Nat.mul_assoc (2 ^ 53 - 1)]; exact c2) hU
  have hsgn : decide (sg (decide (n < 0)) k * (100000000 * (U : Int)) < 0) = decide (n < 0) := by
    by_cases q : n < 0
    · have : sg (decide (n < 0)) k * (100000000 * (U : Int)) < 0 := by
        rw [decide_eq_true q]; unfold sg; simp only [if_true]
        exact Int.mul_neg_of_neg_of_pos (by omega) (by omega)
      rw [decide_eq_true q]; rw [decide_eq_true q] at this; exact decide_eq_true this
    · have : ¬ sg (decide (n < 0)) k * (100000000 * (U : Int)) < 0 := by
        rw [decide_eq_false q]; unfold sg; simp only [Bool.false_eq_true, if_false]
        have : 0 ≤ (k : Int) * (100000000 * (U : Int)) := Int.mul_nonneg (by omega) (by omega)
        omega
      rw [decide_eq_false q]; rw [decide_eq_false q] at this; exact decide_eq_false this
  rw [hsgn] at hkg
  have hkgN : 0 < kg := by omega
  have ih := is_half
  have L1 := log_hi
  have L2 := log_lo
  clear c1 c2 hprod hne hll hlo hhi hKU1 hKU2 hH2
  generalize H = h at *
  have hlog := L1 (kg + h) (by omega) (by omega)
  have hlog2 := L2 (kg + h) (by omega)
  by_cases q : n < 0
  · rw [decide_eq_true q] at hk hkg
    have hv : sg true kg - (h : Int) = -((kg + h : Nat) : Int) := by unfold sg; simp only [if_true]; omega
    have hab : (sg true kg - (h : Int)).natAbs = kg + h := by rw [hv]; omega
    obtain ⟨r, kr, hr, hkr, d1, d2, -⟩ := is_sub hkg ih (by rw [hv]; omega) (by rw [hab]; omega) (by rw [hab]; omega)
    rw [hab] at d1 d2
    refine ⟨f, _, g, r, hf, hk, ?_, ?_, hg, .inl ⟨q, ?_, hr, ?_⟩⟩
    · unfold sg; simp only [if_true]; omega
    · unfold sg; simp only [if_true]; omega
    · exact order_neg hkg (by unfold sg; simp only [if_true]; omega)
    · rw [hv, decide_eq_true (by omega)] at hkr
      refine toInt_of hkr ?_ (by omega) (by omega)
      have hnn : (-n) * (U : Int) = (N : Int) := by rw [← hN]; push_cast; congr 1; omega
      have := tdiv_of (kr : Int) (-n) (by omega) (by rw [hnn]; omega) (by rw [hnn]; omega)
      unfold sg
      simp only [if_true]
      rw [Int.neg_tdiv, this]
      omega
  · rw [decide_eq_false q] at hk hkg
    have hv : sg false kg + (h : Int) = ((kg + h : Nat) : Int) := by unfold sg; simp only [Bool.false_eq_true, if_false]; omega
    have hab : (sg false kg + (h : Int)).natAbs = kg + h := by rw [hv]; omega
    obtain ⟨r, kr, hr, hkr, d1, d2, -⟩ := is_add hkg ih (by rw [hv]; omega) (by rw [hab]; omega) (by rw [hab]; omega)
    rw [hab] at d1 d2
    refine ⟨f, _, g, r, hf, hk, ?_, ?_, hg, .inr ⟨by omega, ?_, hr, ?_⟩⟩
    · unfold sg; simp only [Bool.false_eq_true, if_false]; omega
    · unfold sg; simp only [Bool.false_eq_true, if_false]; omega
    · exact order_nonneg hkg (by unfold sg; simp only [Bool.false_eq_true, if_false]; omega)
    · rw [hv, decide_eq_false (by omega)] at hkr
      have hnn : n * (U : Int) = (N : Int) := by rw [← hN]; push_cast; congr 1; omega
      exact toInt_of hkr (tdiv_of (kr : Int) n (by omega) (by rw [hnn]; omega) (by rw [hnn]; omega)) (by omega) (by omega)

end FlPlain
