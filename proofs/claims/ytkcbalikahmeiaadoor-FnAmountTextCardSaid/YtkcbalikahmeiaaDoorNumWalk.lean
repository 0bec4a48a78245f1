/-
  A number of base units over a power of ten: the double's letters are the number's own.
-/
import Derived.Test.YtkcbalikahmeiaaDoorFfWalk
import Derived.Test.YtkcbalikahmeiaaDoorShortSmall
import Derived.Test.YtkcbalikahmeiaaDoorWordPure
namespace Go.Proofs.YtkcbalikahmeiaaDoor.Aft
open Go.RowKit FlPlain Ieee Go.Proofs.YtkcbalikahmeiaaDoor.Hand Go.Proofs.YtkcbalikahmeiaaDoorW.PrintWords Go.Proofs.YtkcbalikahmeiaaDoorW.PrintLast Go.Proofs.YtkcbalikahmeiaaDoorW.PrintMore

theorem tab_below {w w1 : World} {name : String} {k : IntKind} {zs : List Int} (h : Lib.TabIs Tryd.prog w name k zs) (hb : Below w.heap.size w w1) : Lib.TabIs Tryd.prog w1 name k zs := by
  unfold Lib.TabIs World.var? at *
  cases hg : Tryd.prog.globalNamed name with
  | none => simp [hg] at h
  | some g =>
    simp only [hg, Option.bind_some] at h ⊢
    have hlt : g < w.heap.size := by
      rcases Nat.lt_or_ge g w.heap.size with h' | h'
      · exact h'
      · rw [Array.getElem?_eq_none h'] at h; simp at h
    rw [hb.block g hlt]
    exact h
/-- What the walk reads of the library's tables. -/
structure Env (w : World) : Prop where
  T : Tab w (fun p => (hiT p : Nat)) (fun p => (loT p : Nat))
  num : Lib.TabIs Tryd.prog w "internal/strconv.uint64pow10" .u64 Lib.pow10Tab
  opt : w.cell? ⟨4, 0, none⟩ = some (.bool true)
theorem Env.below {w w1 : World} (h : Env w) (hb : Below w.heap.size w w1) : Env w1 := ⟨h.T.below hb, tab_below h.num hb, pw_cell_below hb h.opt⟩
theorem nDigits_le : ∀ (k u : Nat), u < 10 ^ (k + 1) → Lib.nDigits u ≤ k + 1
  | 0, u, h => by rw [Lib.nDigits_small (by simpa using h)]; exact Nat.le_refl _
  | k + 1, u, h => by
    by_cases hu : u < 10
    · rw [Lib.nDigits_small hu]; omega
    · rw [Lib.nDigits_big hu]
      have := nDigits_le k (u / 10) (by rw [Nat.pow_succ] at h; omega)
      omega
theorem near_big {N k t M : Nat} (h1 : 1 ≤ N) (hN : Near N (10 ^ k) t M) (hk : k = 14 ∨ k ≤ 11) : t ≤ 89 ∨ (k = 14 ∧ N ≤ 727 ∧ t ≤ 99) := by
  have h2 := hN.hi
  have m2 : M < 9007199254740992 := hN.m2
  rcases Nat.lt_or_ge t 90 with g | g
  · exact .inl (by omega)
  · right
    have a : ∀ c, c ≤ t → N * 2 ^ (c + 1) < 18014398509481984 * 10 ^ k := fun c hc => by
      have e1 : N * 2 ^ (c + 1) ≤ N * 2 ^ (t + 1) := Nat.mul_le_mul_left _ (Nat.pow_le_pow_right (by decide) (by omega))
      have e2 : (2 * M + 1) * 10 ^ k ≤ 18014398509481984 * 10 ^ k := Nat.mul_le_mul_right _ (by omega)
      omega
    have b := a 90 g
    rw [show 2 ^ (90 + 1) = 18014398509481984 * 137438953472 from rfl] at b
    have hk14 : k = 14 := by
      rcases hk with hk | hk
      · exact hk
      · exfalso
        have : 10 ^ k ≤ 10 ^ 11 := Nat.pow_le_pow_right (by decide) hk
        rw [show 10 ^ 11 = 100000000000 from rfl] at this
        omega
    subst hk14
    rw [show 10 ^ 14 = 100000000000000 from rfl] at *
    refine ⟨rfl, by omega, ?_⟩
    rcases Nat.lt_or_ge t 100 with g2 | g2
    · omega
    · exfalso
      have c := a 100 g2
      rw [show 2 ^ (100 + 1) = 18014398509481984 * 140737488355328 from rfl] at c
      omega
theorem ten_pow (k : Nat) : 10 ^ k = 2 ^ k * 5 ^ k := by rw [← Nat.mul_pow]
/-- The letters of n over 10 ^ k. -/
def fOut (n : Int) (k : Nat) : ByteArray := strOfNums (sgnL (decide (n < 0)) ++ txt n.natAbs k)
theorem ff_short (n : Int) (k Wd b : Nat) (prec : Int) (h0 : n ≠ 0) (hn : n.natAbs ≤ 1000000000000000) (hW : double.read Wd = .number false (10 ^ k * 2 ^ b) (-(b : Int))) (hK1 : 2 ^ 52 ≤ 10 ^ k * 2 ^ b) (hK2 : 10 ^ k * 2 ^ b < 2 ^ 53) (hb : b ≤ 50) (hk : k = 14 ∨ k ≤ 11) (hp0 : -100 ≤ prec) (hp1 : prec < 0) :
    ∃ f : Nat, double.div (double.write (.number (decide (n < 0)) n.natAbs 0)) Wd = some f ∧ ∀ w, Env w → Calls Tryd.prog 10 #[.float .f64 f, .int .u8 102, .int .i64 prec, .int .i64 64] w fun e w' => e = .returned (.string (fOut n k)) ∧ Below w.heap.size w w' := by
  obtain ⟨t, M, hdiv, hN, ht1, ht2⟩ := div_bits (decide (n < 0)) n.natAbs Wd (10 ^ k) b k (by omega) hn hW hK1 hK2 (ten_pow k) (by omega)
  refine ⟨_, hdiv, fun w hE => ff10_calls _ _ _ _ ?_⟩
  have m1 : 4503599627370496 ≤ M := hN.m1
  have m2 : M < 9007199254740992 := hN.m2
  have hP := parts_of (decide (n < 0)) t M (by omega) (by omega) m1 m2
  generalize double.word (decide (n < 0)) ((1074 - t) * 2 ^ 52 + M) = f at *
  obtain ⟨N, hNn⟩ : ∃ N, N = n.natAbs := ⟨_, rfl⟩
  have key : ∃ p, k + 1 ≤ p ∧ p ≤ 30 ∧ N * 10 ^ (p - 1 - k) ≤ 1152921504606846976 ∧ ∀ w, Tab w (fun p => (hiT p : Nat)) (fun p => (loT p : Nat)) → Calls Tryd.prog 36 #[.int .u64 ((M * 2048 : Nat) : Int), .int .i64 (-((t : Int) + 11))] w fun r w' => r = .returned (.tuple #[.int .u64 ((N * 10 ^ (p - 1 - k) : Nat) : Int), .int .i64 (-((p : Int) - 1))]) ∧ Below w.heap.size w w' := by
    rw [hNn]
    rcases near_big (by omega) hN hk with g | ⟨rfl, g1, g2⟩
    · exact short_law n.natAbs k t M (fun p => (hiT p : Nat)) (fun p => (loT p : Nat)) hN hn (by omega) g (fun p hp => by simp only [hiT, if_pos hp]) (fun p hp => by simp only [loT, if_pos hp]; rfl)
    · rcases Nat.lt_or_ge t 90 with g | g
      · exact short_law n.natAbs 14 t M (fun p => (hiT p : Nat)) (fun p => (loT p : Nat)) hN hn (by omega) (by omega) (fun p hp => by simp only [hiT, if_pos hp]) (fun p hp => by simp only [loT, if_pos hp]; rfl)
      · exact short_small n.natAbs t M hN g1 g g2
  have ht99 : t ≤ 99 := by
    rcases near_big (by omega) hN hk with g | g
    · omega
    · exact g.2.2
  obtain ⟨p, p1, p2, p3, hS⟩ := key
  have hN1 : 1 ≤ N := by omega
  have hu1 : 1 ≤ N * 10 ^ (p - 1 - k) := Nat.mul_pos hN1 (Nat.pow_pos (by decide))
  have htx : txt (N * 10 ^ (p - 1 - k)) (p - 1) = txt N k := by
    have := txt_scale N (p - 1 - k) k
    rw [show k + (p - 1 - k) = p - 1 by omega] at this
    exact this
  unfold fOut
  rw [← hNn, ← htx]
  generalize N * 10 ^ (p - 1 - k) = u at *
  refine ff_calls f prec _ w hp0 (by omega) fun v w1 gd hb1 hR hgd => ?_
  have hE1 := hE.below hb1
  exact ftoa_short w.heap.size gd f t M (decide (n < 0)) (M - 4503599627370496) p u v w1 prec hP.g1 hP.g2 hP.g3 hP.g4 (by omega) (by omega) hP.lt hp0 hp1 m1 m2 hu1 (by omega) (by
      have := nDigits_le 18 u (by rw [show 10 ^ (18 + 1) = 10000000000000000000 from rfl]; omega)
      omega) (by omega) (by omega)
    (fun w2 hb2 => num_calls u hu1 (by omega) w2 (hE1.below hb2).num)
    (fun w2 hb2 => hS w2 (hE1.below hb2).T) hR hb1.size hgd
theorem ff_base (n : Int) (Wd : Nat) (h0 : n ≠ 0) (hn : n.natAbs ≤ 1000000000000000) (hW : double.read Wd = .number false (10 ^ 0 * 2 ^ 52) (-((52 : Nat) : Int))) :
    ∃ f : Nat, double.div (double.write (.number (decide (n < 0)) n.natAbs 0)) Wd = some f ∧ ∀ w, Env w → Calls Tryd.prog 10 #[.float .f64 f, .int .u8 102, .int .i64 0, .int .i64 64] w fun e w' => e = .returned (.string (fOut n 0)) ∧ Below w.heap.size w w' := by
  obtain ⟨t, M, hdiv, hN, ht1, ht2⟩ := div_bits (decide (n < 0)) n.natAbs Wd (10 ^ 0) 52 0 (by omega) hn hW (by decide) (by decide) rfl (by omega)
  refine ⟨_, hdiv, fun w hE => ff10_calls _ _ _ _ ?_⟩
  have m1 : 4503599627370496 ≤ M := hN.m1
  have m2 : M < 9007199254740992 := hN.m2
  have hP := parts_of (decide (n < 0)) t M (by omega) (by omega) m1 m2
  generalize double.word (decide (n < 0)) ((1074 - t) * 2 ^ 52 + M) = f at *
  obtain ⟨N, hNn⟩ : ∃ N, N = n.natAbs := ⟨_, rfl⟩
  rw [← hNn] at hN hn
  unfold fOut
  rw [← hNn]
  have hN1 : 1 ≤ N := by omega
  have n3 := hN.lo
  have n4 := hN.hi
  rw [Nat.pow_zero, Nat.mul_one] at n3 n4
  have hM : M = N * 2 ^ t := by
    rw [Nat.pow_succ, ← Nat.mul_assoc] at n3 n4
    omega
  have ht52 : t ≤ 52 := by
    rcases Nat.lt_or_ge t 53 with g | g
    · omega
    · exfalso
      have a : 2 ^ 53 ≤ 2 ^ t := Nat.pow_le_pow_right (by decide) g
      have c : 1 * 2 ^ t ≤ N * 2 ^ t := Nat.mul_le_mul_right _ hN1
      rw [show 2 ^ 53 = 9007199254740992 from rfl] at a
      omega
  have ht3 : 3 ≤ t := by
    rcases Nat.lt_or_ge t 3 with g | g
    · exfalso
      have a : 2 ^ t ≤ 2 ^ 2 := Nat.pow_le_pow_right (by decide) (by omega)
      have c : N * 2 ^ t ≤ 1000000000000000 * 2 ^ 2 := Nat.mul_le_mul hn a
      omega
    · exact g
  obtain ⟨E, hE'⟩ : ∃ E, E = 52 - t := ⟨_, rfl⟩
  have hm : M * 2048 = N * 2 ^ (63 - E) := by rw [hM, Nat.mul_assoc, show 2048 = 2 ^ 11 from rfl, ← Nat.pow_add, show t + 11 = 63 - E by omega]
  have hlt : N < 2 ^ (E + 1) := by
    have a : N * 2 ^ t < 2 ^ (E + 1) * 2 ^ t := by rw [← hM, ← Nat.pow_add, show E + 1 + t = 53 by omega]; exact m2
    exact Nat.lt_of_mul_lt_mul_right a
  obtain ⟨f1, f2, f3⟩ := l10_facts E (by omega)
  refine ff_calls f 0 _ w (by omega) (by omega) fun v w1 gd hb1 hR hgd => ?_
  have hE1 := hE.below hb1
  refine ftoa_fixed w.heap.size gd f E M (1 + l10 (E + 1)) (decide (n < 0)) (M - 4503599627370496) N v w1 hP.g1 (by rw [hP.g2]; omega) hP.g3 hP.g4 (by omega) hP.lt m1 m2 hN1 (by omega) (by
      have := nDigits_le 18 N (by rw [show 10 ^ (18 + 1) = 10000000000000000000 from rfl]; omega)
      omega) rfl (by omega) hE1.opt (by have := hE1.T.h6; omega)
    (fun w2 hb2 => num_calls N hN1 (by omega) w2 (hE1.below hb2).num)
    (fun w2 hb2 => ?_) hR hb1.size hgd
  have hE2 := hE1.below hb2
  have ct : w2.cell? ⟨5, 1 + l10 (E + 1), none⟩ = some (.int .u64 ((10 ^ (1 + l10 (E + 1)) : Nat) : Int)) := by
    have h := hE2.num.cell (g := 5) (by kernel_rfl) (1 + l10 (E + 1)) (by have : Lib.pow10Tab.length = 20 := by decide +kernel
                                                                          omega)
    rw [h]
    have H : ∀ m : Fin 17, Lib.pow10Tab.getD m.val 0 = ((10 ^ m.val : Nat) : Int) := by decide +kernel
    exact congrArg (fun z => some (Value.int .u64 z)) (H ⟨1 + l10 (E + 1), by omega⟩)
  have hc0 := hE2.T.c0 0 (by decide)
  have hc1 := hE2.T.c1 0 (by decide)
  have hd0 := hE2.T.c0 1 (by decide)
  have hd1 := hE2.T.c1 1 (by decide)
  rw [hm]
  rcases f1 with f1 | f1
  · exact fixed_zero N E _ _ w2 hE2.T.h6 (by rw [hc0]; exact congrArg (fun z : Nat => some (Value.int .u64 (z : Int))) (show hiT 0 = 9223372036854775808 by decide +kernel)) (by rw [hc1]; rfl) (by omega) rfl hlt rfl f1 ct
  · exact fixed_one N E _ _ w2 hE2.T.h6 (by rw [hd0]; exact congrArg (fun z : Nat => some (Value.int .u64 (z : Int))) (show hiT 1 = 11529215046068469760 by decide +kernel)) (by rw [hd1]; rfl) (by omega) rfl hlt rfl f1 ct
theorem ff_zero (k : Nat) (prec : Int) (hp0 : -100 ≤ prec) (hp : prec ≤ 0) (w : World) :
    Calls Tryd.prog 10 #[.float .f64 0, .int .u8 102, .int .i64 prec, .int .i64 64] w fun e w' => e = .returned (.string (fOut 0 k)) ∧ Below w.heap.size w w' := by
  refine ff10_calls _ _ _ _ ?_
  have e : sgnL (decide ((0 : Int) < 0)) ++ txt (0 : Int).natAbs k = [48] := by
    have h1 : fr 0 k = [] := (fr_nil 0 k).2 (Nat.zero_mod _)
    show [] ++ txt 0 k = [48]
    unfold txt
    rw [h1, if_pos rfl, List.nil_append, List.append_nil, Nat.zero_div]
    have h2 := dig_zero (u := 0) (q := 1) (by rw [Lib.nDigits_small (by decide)]; exact Nat.le_refl _)
    rw [Nat.zero_div] at h2
    exact h2
  unfold fOut
  rw [e]
  exact ff_calls 0 prec _ w hp0 hp fun v w1 gd hb1 hR _ => ftoa_zero w.heap.size gd prec v w1 hR hb1.size hp0 hp
end Go.Proofs.YtkcbalikahmeiaaDoor.Aft
