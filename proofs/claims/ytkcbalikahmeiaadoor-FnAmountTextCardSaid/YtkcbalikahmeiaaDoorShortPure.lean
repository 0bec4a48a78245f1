/-
  The shortest decimal number, in plain words: between the two ends of a double's interval there is one multiple of ten, and it is the number itself.
-/
import Derived.Test.YtkcbalikahmeiaaDoorScalePure
namespace Go.Proofs.YtkcbalikahmeiaaDoor.Aft
open Go.RowKit Go.Proofs.YtkcbalikahmeiaaDoor.PFnAmountText Go.Proofs.YtkcbalikahmeiaaDoorW.PrintWords Go.Proofs.YtkcbalikahmeiaaDoorW.PrintLast Go.Proofs.YtkcbalikahmeiaaDoorW.PrintMore

/-- The power of ten for a double whose unit is 2 ^ -t. -/
def pN (t : Nat) : Nat := (-(-((t : Int) * 78913) / 262144)).toNat
def pS (t : Nat) : Nat := (-((-((t : Int) * 631305) - 261663) / 2097152)).toNat
theorem pN_facts (t : Nat) (h3 : 3 ≤ t) (h89 : t ≤ 89) : 1 ≤ pN t ∧ pN t ≤ 27 ∧ 2 ^ t ≤ 10 ^ pN t ∧ 10 ^ pN t < 10 * 2 ^ t ∧ -(-((t : Int) * 78913) / 262144) = (pN t : Int) := by
  have H : ∀ m : Fin 90, 3 ≤ m.val → 1 ≤ pN m.val ∧ pN m.val ≤ 27 ∧ 2 ^ m.val ≤ 10 ^ pN m.val ∧ 10 ^ pN m.val < 10 * 2 ^ m.val ∧ -(-((m.val : Int) * 78913) / 262144) = (pN m.val : Int) := by decide +kernel
  exact H ⟨t, by omega⟩ h3
theorem pS_facts (t : Nat) (h3 : 3 ≤ t) (h89 : t ≤ 89) : 1 ≤ pS t ∧ pS t ≤ 27 ∧ 2 ^ t ≤ 10 ^ pS t ∧ 3 * 10 ^ pS t < 40 * 2 ^ t ∧ -((-((t : Int) * 631305) - 261663) / 2097152) = (pS t : Int) := by
  have H : ∀ m : Fin 90, 3 ≤ m.val → 1 ≤ pS m.val ∧ pS m.val ≤ 27 ∧ 2 ^ m.val ≤ 10 ^ pS m.val ∧ 3 * 10 ^ pS m.val < 40 * 2 ^ m.val ∧ -((-((m.val : Int) * 631305) - 261663) / 2097152) = (pS m.val : Int) := by decide +kernel
  exact H ⟨t, by omega⟩ h3
def lp (p : Nat) : Nat := p * 108853 / 32768
theorem lp_facts (p : Nat) (h : p ≤ 27) : lp p ≤ 89 ∧ 2 ^ lp p ≤ 10 ^ p ∧ 10 ^ p < 2 ^ (lp p + 1) := by
  have H : ∀ m : Fin 28, lp m.val ≤ 89 ∧ 2 ^ lp m.val ≤ 10 ^ m.val ∧ 10 ^ m.val < 2 ^ (lp m.val + 1) := by decide +kernel
  exact H ⟨p, by omega⟩
/-- The upper word of a power of ten. -/
def hiP (p : Nat) : Nat := 10 ^ p * 2 ^ 63 / 2 ^ lp p
theorem hiP_facts (p : Nat) (h : p ≤ 27) : hiP p < 18446744073709551616 ∧ hiP p * 2 ^ lp p = 10 ^ p * 2 ^ 63 := by
  have H : ∀ m : Fin 28, hiP m.val < 18446744073709551616 ∧ hiP m.val * 2 ^ lp m.val = 10 ^ m.val * 2 ^ 63 := by decide +kernel
  exact H ⟨p, by omega⟩
/-- How far the scaled number is shifted. -/
theorem shift_facts (t p : Nat) (hp : p ≤ 27) (h1 : 2 ^ t ≤ 10 ^ p) (h2 : 3 * 10 ^ p < 40 * 2 ^ t) : lp p ≤ t + 8 ∧ t + 8 - lp p < 64 := by
  obtain ⟨l1, l2, l3⟩ := lp_facts p hp
  constructor
  · rcases Nat.lt_or_ge (t + 8) (lp p) with g | g
    · exfalso
      have a : 2 ^ (t + 8) ≤ 2 ^ lp p := Nat.pow_le_pow_right (by decide) (Nat.le_of_lt g)
      rw [Nat.pow_add] at a
      omega
    · exact g
  · rcases Nat.lt_or_ge (t + 8 - lp p) 64 with g | g
    · exact g
    · exfalso
      have a : 2 ^ (lp p + 1) ≤ 2 ^ t := Nat.pow_le_pow_right (by decide) (by omega)
      omega
/-- uscale at a left word x: unrounded x * 10 ^ p / 2 ^ (t + 9). -/
theorem scaled (x t p : Nat) (hx : x < 18446744073709551616) (hev : x % 2 = 0) (hp : p ≤ 27) (h1 : 2 ^ t ≤ 10 ^ p) (h2 : 3 * 10 ^ p < 40 * 2 ^ t) :
    ∃ R : Nat, strconv_uscale.f x (hiP p : Nat) 0 ((t + 8 - lp p : Nat) : Int) = some ((R : Int), (hiP p : Int), 0, ((t + 8 - lp p : Nat) : Int)) ∧ Unr (x * 10 ^ p) (2 ^ (t + 9)) R ∧ R ≤ 2 ^ 60 := by
  obtain ⟨l1, l2, l3⟩ := lp_facts p hp
  obtain ⟨s1, s2⟩ := shift_facts t p hp h1 h2
  obtain ⟨hh, he⟩ := hiP_facts p hp
  have hT : 2 ^ (64 + (t + 8 - lp p)) * 2 ^ lp p = 2 ^ (t + 9) * 2 ^ 63 := by rw [← Nat.pow_add, ← Nat.pow_add]; congr 1; omega
  have hA : x * hiP p * 2 ^ lp p = x * 10 ^ p * 2 ^ 63 := by rw [Nat.mul_assoc, he, Nat.mul_assoc]
  have hE : 0 < 2 ^ lp p := Nat.two_pow_pos _
  have hT9 : 2 ^ (t + 9) = 2 ^ t * 512 := by rw [Nat.pow_add]
  have hb : x * 10 ^ p < 2 ^ 60 * 2 ^ (t + 9) := by
    have a : x * 10 ^ p ≤ 18446744073709551615 * 10 ^ p := Nat.mul_le_mul_right _ (by omega)
    rw [hT9]
    generalize 10 ^ p = P at *
    generalize 2 ^ t = T at *
    omega
  have hb2 : x * hiP p < 2 ^ (64 + (t + 8 - lp p)) * 2 ^ 60 := by
    refine Nat.lt_of_mul_lt_mul_right (a := 2 ^ lp p) ?_
    rw [hA, Nat.mul_right_comm (2 ^ (64 + (t + 8 - lp p))), hT, Nat.mul_right_comm (2 ^ (t + 9))]
    refine Nat.mul_lt_mul_of_pos_right ?_ (Nat.two_pow_pos _)
    rw [Nat.mul_comm (2 ^ (t + 9))]
    exact hb
  obtain ⟨R, e, hR⟩ := uscale_f x (hiP p) (t + 8 - lp p) hx hh s2 hev (Nat.lt_of_lt_of_le hb2 (Nat.mul_le_mul_left _ (by decide)))
  have hR1 := hR.up hE
  rw [hT, hA] at hR1
  have hR2 := hR1.scale (Nat.two_pow_pos _)
  exact ⟨R, e, hR2, hR2.le (Nat.two_pow_pos _) hb⟩
/-- THE HEART: one multiple of ten lies between the ends. -/
theorem heart {Amin Amax T Rmin Rmax d0 odd : Nat} (hT : 0 < T) (h1 : Unr Amin T Rmin) (h2 : Unr Amax T Rmax) (hodd : odd ≤ 1) (hlo : Amin < 4 * (10 * d0) * T) (hhi : 4 * (10 * d0) * T < Amax) (hw : Amax < Amin + 40 * T) :
    (Rmin + odd + 3) / 4 ≤ 10 * d0 ∧ (Rmax - odd) / 4 / 10 = d0 ∧ 1 ≤ Rmax := by
  have a := h1.lt hT hlo
  have b := h2.gt hT hhi
  have c := h2.quarter
  have e : 4 * (Rmax / 4) * T < (4 * (10 * d0) + 40) * T := by
    rw [Nat.add_mul]
    omega
  have f := Nat.lt_of_mul_lt_mul_right e
  omega
end Go.Proofs.YtkcbalikahmeiaaDoor.Aft
