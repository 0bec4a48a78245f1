/-
  Scaling by a power of ten, in plain words: what uscale answers where the power is told by its upper word alone.
-/
import Derived.Test.YtkcbalikahmeiaaDoorUx4
import Derived.Laws.Bits64b
namespace Go.Proofs.YtkcbalikahmeiaaDoor.Aft
open Go.RowKit Go.Proofs.YtkcbalikahmeiaaDoor.PFnAmountText Go.Proofs.YtkcbalikahmeiaaDoorW.PrintWords Go.Proofs.YtkcbalikahmeiaaDoorW.PrintLast Go.Proofs.YtkcbalikahmeiaaDoorW.PrintMore

theorem limbs (a b al ah bl bh p q r s : Int) (ha : a = ah * 4294967296 + al) (hb : b = bh * 4294967296 + bl) (hp : al * bl = p) (hq : ah * bl = q) (hr : al * bh = r) (hs : ah * bh = s) :
    a * b = s * 18446744073709551616 + (q + r) * 4294967296 + p := by
  subst ha hb hp hq hr hs
  rw [Int.add_mul, Int.mul_add, Int.mul_add]
  have e1 : ah * 4294967296 * (bh * 4294967296) = ah * bh * 18446744073709551616 := by
    rw [Int.mul_assoc, Int.mul_left_comm 4294967296 bh, ← Int.mul_assoc]; rfl
  have e2 : ah * 4294967296 * bl = ah * bl * 4294967296 := by rw [Int.mul_assoc, Int.mul_comm 4294967296 bl, ← Int.mul_assoc]
  have e3 : al * (bh * 4294967296) = al * bh * 4294967296 := by rw [← Int.mul_assoc]
  omega
theorem mul_bd {x y : Int} (h0 : 0 ≤ x) (h1 : x ≤ 4294967295) (g0 : 0 ≤ y) (g1 : y ≤ 4294967295) : 0 ≤ x * y ∧ x * y ≤ 18446744065119617025 :=
  ⟨Int.mul_nonneg h0 g0, Int.le_trans (Int.mul_le_mul h1 g1 g0 (by omega)) (by omega)⟩
theorem wrap_id {x : Int} (h0 : 0 ≤ x) (h1 : x < 18446744073709551616) : IntKind.u64.wrap x = x := by rw [IntKind.wrap_u64]; omega
theorem low32 (x : Int) (h0 : 0 ≤ x) (h1 : x < 18446744073709551616) : Go.bits .and .u64 x 4294967295 = x % 4294967296 := bits_mask .u64 64 (by decide) (fun n h0 h1 => wrap_id h0 (by simpa using h1)) 32 (by decide) x h0 h1
/-- The product of two words, whole. -/
theorem mul64_f (a b : Int) (ha0 : 0 ≤ a) (ha1 : a < 18446744073709551616) (hb0 : 0 ≤ b) (hb1 : b < 18446744073709551616) : bits_Mul64.f a b = some (a * b / 18446744073709551616, a * b % 18446744073709551616) := by
  unfold bits_Mul64.f
  rw [low32 a ha0 ha1, low32 b hb0 hb1]
  have hA : a = a / 4294967296 * 4294967296 + a % 4294967296 := by omega
  have hB : b = b / 4294967296 * 4294967296 + b % 4294967296 := by omega
  have hL := limbs a b _ _ _ _ _ _ _ _ hA hB rfl rfl rfl rfl
  have p1 := mul_bd (x := a % 4294967296) (y := b % 4294967296) (by omega) (by omega) (by omega) (by omega)
  have p2 := mul_bd (x := a / 4294967296) (y := b % 4294967296) (by omega) (by omega) (by omega) (by omega)
  have p3 := mul_bd (x := a % 4294967296) (y := b / 4294967296) (by omega) (by omega) (by omega) (by omega)
  have p4 := mul_bd (x := a / 4294967296) (y := b / 4294967296) (by omega) (by omega) (by omega) (by omega)
  have hlt : a * b < 18446744073709551616 * 18446744073709551616 :=
    Int.lt_of_le_of_lt (Int.mul_le_mul (show a ≤ 18446744073709551615 by omega) (show b ≤ 18446744073709551615 by omega) hb0 (by omega)) (by decide)
  have h0 : 0 ≤ a * b := Int.mul_nonneg ha0 hb0
  have hw : IntKind.u64.wrap (a * b) = a * b % 18446744073709551616 := IntKind.wrap_u64 _
  rw [hw]
  clear hw
  generalize a % 4294967296 * (b % 4294967296) = p at hL p1 ⊢
  generalize a / 4294967296 * (b % 4294967296) = q at hL p2 ⊢
  generalize a % 4294967296 * (b / 4294967296) = r at hL p3 ⊢
  generalize a / 4294967296 * (b / 4294967296) = s at hL p4 ⊢
  generalize a * b = ab at hL hlt h0 ⊢
  rw [wrap_id (x := p) (by omega) (by omega), wrap_id (x := q) (by omega) (by omega), wrap_id (x := r) (by omega) (by omega), wrap_id (x := s) (by omega) (by omega)]
  rw [wrap_id (x := q + p / 4294967296) (by omega) (by omega), low32 _ (by omega) (by omega)]
  rw [wrap_id (x := (q + p / 4294967296) % 4294967296 + r) (by omega) (by omega)]
  rw [IntKind.wrap_u64, IntKind.wrap_u64]
  congr 2
  omega
theorem or_one (u : Nat) (h : u < 2 ^ 63) : Go.bits .or .u64 (u : Int) 1 = ((u / 2 * 2 + 1 : Nat) : Int) := by
  have h1 := bits_or_u64_nat u 1 (by omega) (by decide)
  rw [show ((1 : Nat) : Int) = 1 from rfl] at h1
  rw [h1]
  congr 1
  apply Nat.eq_of_testBit_eq
  intro i
  rw [Nat.testBit_or]
  cases i with
  | zero => simp [Nat.testBit_zero]
  | succ i =>
    rw [Nat.testBit_succ, Nat.testBit_succ, Nat.testBit_succ, show (u / 2 * 2 + 1) / 2 = u / 2 from by omega]
    simp
theorem or_zero (u : Nat) (h : u < 2 ^ 63) : Go.bits .or .u64 (u : Int) 0 = (u : Int) := by
  have h1 := bits_or_u64_nat u 0 (by omega) (by decide)
  rw [show ((0 : Nat) : Int) = 0 from rfl] at h1
  rw [h1, Nat.or_zero]
/-- An unrounded number: the floor, and in its lowest bit that something is left. -/
def Unr (A T R : Nat) : Prop := (A % T = 0 ∧ R = A / T) ∨ (A % T ≠ 0 ∧ R = A / T / 2 * 2 + 1)
theorem Unr.scale {A T R E : Nat} (hE : 0 < E) (h : Unr (A * E) (T * E) R) : Unr A T R := by
  unfold Unr at *
  rw [Nat.mul_mod_mul_right, Nat.mul_div_mul_right _ _ hE] at h
  rcases h with ⟨h1, h2⟩ | ⟨h1, h2⟩
  · exact .inl ⟨(Nat.mul_eq_zero.1 h1).resolve_right (by omega), h2⟩
  · exact .inr ⟨fun e => h1 (by rw [e, Nat.zero_mul]), h2⟩
theorem Unr.up {A T R E : Nat} (hE : 0 < E) (h : Unr A T R) : Unr (A * E) (T * E) R := by
  unfold Unr at *
  rw [Nat.mul_mod_mul_right, Nat.mul_div_mul_right _ _ hE]
  rcases h with ⟨h1, h2⟩ | ⟨h1, h2⟩
  · exact .inl ⟨by rw [h1, Nat.zero_mul], h2⟩
  · exact .inr ⟨fun e => h1 ((Nat.mul_eq_zero.1 e).resolve_right (by omega)), h2⟩
theorem Unr.lt {A T R Y : Nat} (h : Unr A T R) (hT : 0 < T) (hY : A < 4 * Y * T) : R + 1 ≤ 4 * Y := by
  have hU : A / T < 4 * Y := (Nat.div_lt_iff_lt_mul hT).2 hY
  rcases h with ⟨_, h⟩ | ⟨_, h⟩ <;> omega
theorem Unr.gt {A T R Y : Nat} (h : Unr A T R) (hT : 0 < T) (hY : 4 * Y * T < A) : 4 * Y + 1 ≤ R := by
  have hU : 4 * Y ≤ A / T := (Nat.le_div_iff_mul_le hT).2 (Nat.le_of_lt hY)
  rcases h with ⟨h0, h⟩ | ⟨_, h⟩
  · have := Nat.div_add_mod A T
    rw [h0, Nat.add_zero] at this
    rcases Nat.lt_or_ge (4 * Y) (A / T) with g | g
    · omega
    · have e : A / T = 4 * Y := by omega
      rw [e, Nat.mul_comm] at this
      omega
  · omega
theorem Unr.quarter {A T R : Nat} (h : Unr A T R) : 4 * (R / 4) * T ≤ A := by
  have hU : R / 4 = A / T / 4 := by rcases h with ⟨_, h⟩ | ⟨_, h⟩ <;> omega
  rw [hU]
  exact Nat.le_trans (Nat.mul_le_mul_right T (show 4 * (A / T / 4) ≤ A / T by omega)) (Nat.div_mul_le_self A T)
theorem Unr.le {A T R B : Nat} (h : Unr A T R) (hT : 0 < T) (hB : A < B * T) : R ≤ B := by
  have hU : A / T < B := (Nat.div_lt_iff_lt_mul hT).2 hB
  rcases h with ⟨_, h⟩ | ⟨_, h⟩ <;> omega
theorem Unr.exact {T R Y : Nat} (h : Unr (Y * T) T R) (hT : 0 < T) : R = Y := by
  rcases h with ⟨_, h⟩ | ⟨h, _⟩
  · rw [h, Nat.mul_div_cancel _ hT]
  · exact absurd (Nat.mul_mod_left _ _) h
/-- What uscale answers. -/
theorem uscale_f (x H s : Nat) (hx : x < 18446744073709551616) (hH : H < 18446744073709551616) (hs : s < 64) (hev : x % 2 = 0) (hhi : x * H < 2 ^ (64 + s) * 2 ^ 62) :
    ∃ R : Nat, strconv_uscale.f x H 0 s = some ((R : Int), (H : Int), 0, (s : Int)) ∧ Unr (x * H) (2 ^ (64 + s)) R := by
  have hm := mul64_f x H (by omega) (by omega) (by omega) (by omega)
  have hm0 := mul64_f x 0 (by omega) (by omega) (by omega) (by omega)
  rw [Int.mul_zero] at hm0
  have hand : Go.bits .and .i64 (s : Int) 63 = (s : Int) := by
    have H : ∀ m : Fin 64, Go.bits .and .i64 (m.val : Int) 63 = (m.val : Int) := by decide +kernel
    exact H ⟨s, hs⟩
  obtain ⟨A, hA⟩ : ∃ A, A = x * H := ⟨_, rfl⟩
  have hAe : A % 2 = 0 := by rw [hA, Nat.mul_mod, hev]; simp
  have hc : ((x : Int) * (H : Int)) = (A : Int) := by rw [hA]; exact (Int.natCast_mul _ _).symm
  rw [hc] at hm
  have hm1 : ((A : Int) / 18446744073709551616) = ((A / 18446744073709551616 : Nat) : Int) := by omega
  have hm2 : ((A : Int) % 18446744073709551616) = ((A % 18446744073709551616 : Nat) : Int) := by omega
  rw [hm1, hm2] at hm
  rw [← hA] at hhi ⊢
  obtain ⟨P, hP⟩ : ∃ P, P = 2 ^ s := ⟨_, rfl⟩
  have hT : 2 ^ (64 + s) = 18446744073709551616 * P := by rw [hP, Nat.pow_add]
  have hPp : 0 < P := by rw [hP]; exact Nat.two_pow_pos s
  have hPs : (2 : Int) ^ s = (P : Int) := by rw [hP, Int.natCast_pow]; rfl
  rw [hT] at hhi ⊢
  have hdiv : A / (18446744073709551616 * P) = A / 18446744073709551616 / P := (Nat.div_div_eq_div_mul _ _ _).symm
  have hmod : A % (18446744073709551616 * P) = A % 18446744073709551616 + 18446744073709551616 * (A / 18446744073709551616 % P) := Nat.mod_mul
  obtain ⟨hi, hhid⟩ : ∃ hi, hi = A / 18446744073709551616 := ⟨_, rfl⟩
  obtain ⟨mid, hmid⟩ : ∃ mid, mid = A % 18446744073709551616 := ⟨_, rfl⟩
  have hmid1 : mid ≠ 1 := by rw [hmid]; omega
  have hmidlt : mid < 18446744073709551616 := by rw [hmid]; exact Nat.mod_lt _ (by decide)
  rw [← hhid, ← hmid] at hm hmod
  rw [← hhid] at hdiv
  have hAx : A < 18446744073709551616 * 18446744073709551616 := by
    rw [hA]
    exact Nat.mul_lt_mul'' hx hH
  have hhilt : hi < 18446744073709551616 := by rw [hhid]; omega
  have hq : hi / P < 2 ^ 62 := by
    rw [← hdiv]
    exact (Nat.div_lt_iff_lt_mul (by omega)).2 (by rw [Nat.mul_comm]; exact hhi)
  have hmin : min ((s : Int)).toNat 64 = s := by omega
  have hshr : shr .u64 (hi : Int) (s : Int) = ((hi / P : Nat) : Int) := by
    show (hi : Int) / 2 ^ min ((s : Int)).toNat 64 = _
    rw [hmin, hPs, Int.natCast_ediv]
  have hback : hi / P * P ≤ hi := Nat.div_mul_le_self hi P
  have hshl : shl .u64 ((hi / P : Nat) : Int) (s : Int) = ((hi / P * P : Nat) : Int) := by
    show IntKind.u64.wrap (((hi / P : Nat) : Int) * 2 ^ min ((s : Int)).toNat 64) = _
    rw [hmin, hPs, ← Int.natCast_mul]
    exact wrap_id (by omega) (by omega)
  unfold strconv_uscale.f
  rw [hm]
  simp only [Option.bind_some, hand, hshr, hshl]
  rw [if_pos (by omega)]
  have hdm := Nat.div_add_mod hi P
  by_cases hz : hi % P = 0
  · have e1 : hi / P * P = hi := by rw [hz, Nat.add_zero, Nat.mul_comm] at hdm; exact hdm
    rw [e1, if_pos rfl, hm0]
    have w0 : IntKind.u64.wrap (((mid : Nat) : Int) - 0 / 18446744073709551616) = (mid : Int) := wrap_id (by omega) (by omega)
    have d0 : decide (((mid : Nat) : Int) < 0 / 18446744073709551616) = false := decide_eq_false (by omega)
    have w1 : IntKind.u64.wrap (((hi : Nat) : Int) - 0) = (hi : Int) := wrap_id (by omega) (by omega)
    simp only [Option.bind_some, w0, d0]
    by_cases hm0' : mid = 0
    · have d1 : decide (((mid : Nat) : Int) > 1) = false := decide_eq_false (by omega)
      rw [d1]
      simp only [strconv_bool2_uint64.f, Bool.false_eq_true, if_false, Option.bind_some, w1, hshr]
      rw [or_zero _ (by omega)]
      exact ⟨hi / P, rfl, .inl ⟨by rw [hmod, hm0', hz], hdiv.symm⟩⟩
    · have d1 : decide (((mid : Nat) : Int) > 1) = true := decide_eq_true (by omega)
      rw [d1]
      simp only [strconv_bool2_uint64.f, Bool.false_eq_true, if_false, if_true, Option.bind_some, w1, hshr]
      rw [or_one _ (by omega)]
      exact ⟨_, rfl, .inr ⟨by rw [hmod, hz] <;> omega, by rw [hdiv]⟩⟩
  · rw [if_neg (by
      intro e
      have e2 : hi / P * P = hi := Int.ofNat.inj e
      rw [Nat.mul_comm] at e2
      omega)]
    rw [or_one _ (by omega)]
    exact ⟨_, rfl, .inr ⟨by rw [hmod]; omega, by rw [hdiv]⟩⟩
end Go.Proofs.YtkcbalikahmeiaaDoor.Aft
