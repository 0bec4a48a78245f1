/-
  shortFloat gives the number itself: a whole number over a power of ten.
-/
import Derived.Test.YtkcbalikahmeiaaDoorShortWalk
import Derived.Test.YtkcbalikahmeiaaDoorDivPure
namespace Go.Proofs.YtkcbalikahmeiaaDoor.Aft
open Go.RowKit FlPlain Go.Proofs.YtkcbalikahmeiaaDoor.PFnAmountText Go.Proofs.YtkcbalikahmeiaaDoorW.PrintWords Go.Proofs.YtkcbalikahmeiaaDoorW.PrintLast Go.Proofs.YtkcbalikahmeiaaDoorW.PrintMore

/-- The table of the powers of ten, as the walk reads it. -/
structure Tab (w : World) (hi lo : Nat → Int) : Prop where
  h6 : 6 < w.heap.size
  c0 : ∀ p, p ≤ 30 → w.cell? ⟨6, (p + 348) * 2, none⟩ = some (.int .u64 (hi p))
  c1 : ∀ p, p ≤ 30 → w.cell? ⟨6, (p + 348) * 2 + 1, none⟩ = some (.int .u64 (lo p))
theorem Tab.below {w w1 : World} {hi lo : Nat → Int} (h : Tab w hi lo) (hb : Below w.heap.size w w1) : Tab w1 hi lo :=
  ⟨Nat.lt_of_lt_of_le h.h6 hb.size, fun p hp => pw_cell_below hb (h.c0 p hp), fun p hp => pw_cell_below hb (h.c1 p hp)⟩
theorem pow_split {k p : Nat} (h : k ≤ p) : 10 ^ p = 10 ^ (p - k) * 10 ^ k := by rw [← Nat.pow_add]; congr 1; omega
/-- The number has few digits: the unit's power of ten lies beyond it. -/
theorem beyond {N k t M p : Nat} (hN : Near N (10 ^ k) t M) (h15 : N ≤ 1000000000000000) (hp : 2 ^ t ≤ 10 ^ p) : k + 1 ≤ p := by
  rcases Nat.lt_or_ge p (k + 1) with g | g
  · exfalso
    have h1 : 10 ^ p ≤ 10 ^ k := Nat.pow_le_pow_right (by decide) (by omega)
    have h2 := hN.lo
    have h3 : (2 * 4503599627370496 - 1) * 10 ^ k ≤ (2 * M - 1) * 10 ^ k := Nat.mul_le_mul_right _ (by have := hN.m1; omega)
    have h4 : N * 2 ^ (t + 1) ≤ 1000000000000000 * (2 * 10 ^ k) := Nat.mul_le_mul h15 (by rw [Nat.pow_succ]; omega)
    have h5 : 0 < 10 ^ k := Nat.pow_pos (by decide)
    generalize 10 ^ k = K at *
    generalize N * 2 ^ (t + 1) = X at *
    generalize (2 * M - 1) * K = Y at *
    omega
  · exact g
theorem and_odd (m : Nat) (h : m < 9223372036854775808) : Go.bits .and .i64 (m : Int) 1 = ((m % 2 : Nat) : Int) := by
  have e63 : (2 : Int) ^ 63 = 9223372036854775808 := by decide
  have hw : ∀ n : Int, 0 ≤ n → n < 2 ^ 63 → IntKind.i64.wrap n = n := fun n h0 h1 => IntWalk.i64_in n ⟨by omega, by rw [e63] at h1; omega⟩
  have := bits_mask .i64 63 (by decide) hw 1 (by decide) (m : Int) (by omega) (by rw [e63]; omega)
  simpa using this
theorem scale_lo (a K X G c : Nat) (hG : 0 < G) (hc : 0 < c) (h : a * K < X) : a * c * (G * K) < X * (G * c) := by
  have e : a * c * (G * K) = a * K * (G * c) := by ac_rfl
  rw [e]
  exact Nat.mul_lt_mul_of_pos_right h (Nat.mul_pos hG hc)
theorem scale_hi (a K X G c : Nat) (hG : 0 < G) (hc : 0 < c) (h : X < a * K) : X * (G * c) < a * c * (G * K) := by
  have e : a * c * (G * K) = a * K * (G * c) := by ac_rfl
  rw [e]
  exact Nat.mul_lt_mul_of_pos_right h (Nat.mul_pos hG hc)
theorem short_law (N k t M : Nat) (hi lo : Nat → Int) (hN : Near N (10 ^ k) t M) (h15 : N ≤ 1000000000000000) (h3 : 3 ≤ t) (h89 : t ≤ 89) (hhi : ∀ p, p ≤ 27 → hi p = (hiP p : Int)) (hlo : ∀ p, p ≤ 27 → lo p = 0) :
    ∃ p, k + 1 ≤ p ∧ p ≤ 30 ∧ N * 10 ^ (p - 1 - k) ≤ 1152921504606846976 ∧ ∀ w, Tab w hi lo → Calls Tryd.prog 36 #[.int .u64 ((M * 2048 : Nat) : Int), .int .i64 (-((t : Int) + 11))] w fun r w' => r = .returned (.tuple #[.int .u64 ((N * 10 ^ (p - 1 - k) : Nat) : Int), .int .i64 (-((p : Int) - 1))]) ∧ Below w.heap.size w w' := by
  have m1 := hN.m1
  have m2 := hN.m2
  by_cases hM : M = 2 ^ 52
  · obtain ⟨p1, p2, p3, p4, p5⟩ := pS_facts t h3 h89
    generalize pS t = p at *
    have hk := beyond hN h15 p3
    obtain ⟨s1, s2⟩ := shift_facts t p p2 p3 p4
    have h2 := hN.two hM
    have h3' := hN.hi
    rw [hM] at h2 h3'
    obtain ⟨R1, u1, q1, r1⟩ := scaled 9223372036854775296 t p (by decide) (by decide) p2 p3 p4
    obtain ⟨R2, u2, q2, r2⟩ := scaled 9223372036854776832 t p (by decide) (by decide) p2 p3 p4
    obtain ⟨d0, hd0⟩ : ∃ d0, d0 = N * 10 ^ (p - 1 - k) := ⟨_, rfl⟩
    obtain ⟨G, hG⟩ : ∃ G, G = 10 ^ (p - k) := ⟨_, rfl⟩
    have hGp : 0 < G := by rw [hG]; exact Nat.pow_pos (by decide)
    have h10 : 10 * d0 = N * G := by rw [hd0, hG, show p - k = p - 1 - k + 1 by omega, Nat.pow_succ]; ac_rfl
    have hpk : 10 ^ p = G * 10 ^ k := by rw [hG]; exact pow_split (by omega)
    have e9 : 2 ^ (t + 9) = 2 ^ t * 512 := by rw [Nat.pow_add]
    have e1 : 2 ^ (t + 1) = 2 ^ t * 2 := by rw [Nat.pow_add]
    have e2 : 2 ^ (t + 2) = 2 ^ t * 4 := by rw [Nat.pow_add]
    have hh := heart (odd := 0) (d0 := d0) (Nat.two_pow_pos (t + 9)) q1 q2 (by decide) (by
        have := scale_lo _ _ _ G 512 hGp (by decide) h2
        rw [hpk, h10, e9]
        rw [e2] at this
        have e : 4 * (N * G) * (2 ^ t * 512) = N * (2 ^ t * 4) * (G * 512) := by ac_rfl
        rw [e]
        exact this) (by
        have := scale_hi _ _ _ G 1024 hGp (by decide) h3'
        rw [hpk, h10, e9]
        rw [e1] at this
        have e : 4 * (N * G) * (2 ^ t * 512) = N * (2 ^ t * 2) * (G * 1024) := by
          rw [show (1024 : Nat) = 2 * 512 from rfl, show (4 : Nat) = 2 * 2 from rfl]; ac_rfl
        rw [e]
        exact this) (by
        rw [e9]
        have : 9223372036854776832 * 10 ^ p = 9223372036854775296 * 10 ^ p + 1536 * 10 ^ p := by omega
        omega)
    refine ⟨p, hk, by omega, by rw [← hd0]; have := hh.2.1; omega, ?_⟩
    rw [hM, ← hd0]
    intro w hT
    have hlp : ((lp p : Nat) : Int) = (p : Int) * 108853 / 32768 := by unfold lp; omega
    have hs : -(-((t : Int) + 11) + (p : Int) * 108853 / 32768 + 3) = ((t + 8 - lp p : Nat) : Int) := by omega
    exact short_two t p R1 R2 d0 (hiP p) 0 w hT.h6 (-((t : Int) + 11)) (by omega) (by omega) (by omega) p1 (by omega) (by omega) ⟨by rw [← hhi p p2]; exact hT.c0 p (by omega), by rw [← hlo p p2]; exact hT.c1 p (by omega), by rw [hs]; exact u1, by rw [hs]; exact u2, r1, r2, hh.2.2, by decide, by decide +kernel, hh.1, hh.2.1⟩
  · obtain ⟨p1, p2, p3, p4, p5⟩ := pN_facts t h3 h89
    generalize pN t = p at *
    have hk := beyond hN h15 p3
    have p4' : 3 * 10 ^ p < 40 * 2 ^ t := by omega
    obtain ⟨s1, s2⟩ := shift_facts t p p2 p3 p4'
    have h2 := hN.lo
    have h3' := hN.hi
    obtain ⟨m, hm⟩ : ∃ m, m = M * 2048 := ⟨_, rfl⟩
    have hb1 : m - 1024 = (2 * M - 1) * 1024 := by omega
    have hb2 : m + 1024 = (2 * M + 1) * 1024 := by omega
    obtain ⟨R1, u1, q1, r1⟩ := scaled (m - 1024) t p (by omega) (by omega) p2 p3 p4'
    obtain ⟨R2, u2, q2, r2⟩ := scaled (m + 1024) t p (by omega) (by omega) p2 p3 p4'
    obtain ⟨d0, hd0⟩ : ∃ d0, d0 = N * 10 ^ (p - 1 - k) := ⟨_, rfl⟩
    obtain ⟨G, hG⟩ : ∃ G, G = 10 ^ (p - k) := ⟨_, rfl⟩
    have hGp : 0 < G := by rw [hG]; exact Nat.pow_pos (by decide)
    have h10 : 10 * d0 = N * G := by rw [hd0, hG, show p - k = p - 1 - k + 1 by omega, Nat.pow_succ]; ac_rfl
    have hpk : 10 ^ p = G * 10 ^ k := by rw [hG]; exact pow_split (by omega)
    have e9 : 2 ^ (t + 9) = 2 ^ t * 512 := by rw [Nat.pow_add]
    have e1 : 2 ^ (t + 1) = 2 ^ t * 2 := by rw [Nat.pow_add]
    have eq1 : 4 * (N * G) * (2 ^ t * 512) = N * (2 ^ t * 2) * (G * 1024) := by
      rw [show (1024 : Nat) = 2 * 512 from rfl, show (4 : Nat) = 2 * 2 from rfl]; ac_rfl
    have hh := heart (odd := M % 2) (d0 := d0) (Nat.two_pow_pos (t + 9)) q1 q2 (by omega) (by
        have := scale_lo _ _ _ G 1024 hGp (by decide) h2
        rw [hpk, h10, e9, hb1]
        rw [e1] at this
        rw [eq1]
        exact this) (by
        have := scale_hi _ _ _ G 1024 hGp (by decide) h3'
        rw [hpk, h10, e9, hb2]
        rw [e1] at this
        rw [eq1]
        exact this) (by
        rw [e9]
        have e : (m + 1024) * 10 ^ p = (m - 1024) * 10 ^ p + 2048 * 10 ^ p := by
          have e0 : m + 1024 = m - 1024 + 2048 := by omega
          rw [e0, Nat.add_mul]
        omega)
    refine ⟨p, hk, by omega, by rw [← hd0]; have := hh.2.1; omega, ?_⟩
    rw [← hd0, ← hm]
    intro w hT
    have hlp : ((lp p : Nat) : Int) = (p : Int) * 108853 / 32768 := by unfold lp; omega
    have hs : -(-((t : Int) + 11) + (p : Int) * 108853 / 32768 + 3) = ((t + 8 - lp p : Nat) : Int) := by omega
    have m3 : 4503599627370497 ≤ M := by
      have m1' : 4503599627370496 ≤ M := m1
      rcases Nat.lt_or_ge 4503599627370496 M with g | g
      · exact g
      · exact absurd (show M = 2 ^ 52 from Nat.le_antisymm g m1') hM
    have m4 : M < 9007199254740992 := m2
    clear hM m1 m2
    exact short_calls m t p (M % 2) R1 R2 d0 (hiP p) 0 w hT.h6 (-((t : Int) + 11)) (by omega) (by omega) (by omega) (by omega) (by omega) p1 (by omega) (by omega) ⟨by rw [← hhi p p2]; exact hT.c0 p (by omega), by rw [← hlo p p2]; exact hT.c1 p (by omega), by rw [hs]; exact u1, by rw [hs]; exact u2, r1, r2, hh.2.2, by omega, by
      rw [show ((m : Int) / 2048) = (M : Int) by omega]
      exact and_odd M (by omega), hh.1, hh.2.1⟩
end Go.Proofs.YtkcbalikahmeiaaDoor.Aft
