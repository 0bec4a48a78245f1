/-
  spec.Decimal: the number with its point, in plain words.
-/
import Derived.Test.YtkcbalikahmeiaaDoorDecPrint
import Derived.Test.YtkcbalikahmeiaaDoorLetPure
namespace Go.Proofs.YtkcbalikahmeiaaDoor.Aft
open Go.RowKit Go.Proofs.YtkcbalikahmeiaaDoor.PFnAmountText Go.Proofs.YtkcbalikahmeiaaDoorW.PrintWords Go.Proofs.YtkcbalikahmeiaaDoorW.PrintLast Go.Proofs.YtkcbalikahmeiaaDoorW.PrintMore

def dl (n : Nat) : Int := 48 + ((n % 10 : Nat) : Int)
theorem dl_eq (n : Nat) (h : n ≤ 1000000000000000) : (wrap64 (48 + (Int.tmod (n : Int) 10))) % 256 = dl n := by
  unfold dl
  rw [Int.tmod_eq_emod_of_nonneg (by omega)]
  unfold wrap64
  omega
theorem dq_eq (n : Nat) (h : n ≤ 1000000000000000) : wrap64 (Int.tdiv (n : Int) 10) = ((n / 10 : Nat) : Int) := by
  rw [Int.tdiv_eq_ediv_of_nonneg (by omega)]
  unfold wrap64
  omega
theorem di_eq (i : Nat) (h : i ≤ 1000) : wrap64 ((i : Int) + 1) = ((i + 1 : Nat) : Int) := by
  unfold wrap64
  omega
theorem stepA (k n P i : Nat) (neg : Bool) (out : List Int) (hn : n ≤ 1000000000000000) (hl : out.length ≤ 100) (hi : i < P) (hP : P ≤ 100) :
    spec_Decimal.l0 (k + 3) n P neg out i = spec_Decimal.l0 k ((n / 10 : Nat) : Int) P neg (if out = [] ∧ n % 10 = 0 then [] else dl n :: out) ((i + 1 : Nat) : Int) := by
  rw [spec_Decimal.l0, if_pos (by omega), spec_Decimal.j2, if_pos rfl, if_neg (by omega), spec_Decimal.j3, if_neg (by decide), if_pos (by omega), dl_eq n hn, dq_eq n hn, di_eq i (by omega)]
  by_cases h : out = []
  · subst h
    rw [if_pos (by rfl)]
    by_cases h2 : n % 10 = 0
    · rw [if_pos (by unfold dl; omega), if_pos ⟨rfl, h2⟩]
    · rw [if_neg (by unfold dl; omega), if_neg (fun c => h2 c.2), Option.bind_some, if_pos (by show 1 + 0 < _; omega)]
      rfl
  · have h3 : ¬ ((out.length : Int) = 0) := fun c => h (List.length_eq_zero_iff.1 (by omega))
    rw [if_neg h3, if_neg (fun c => h c.1), Option.bind_some, if_pos (by simp only [List.length_cons, List.length_nil]; omega)]
    rfl
theorem stepB (k n P : Nat) (neg : Bool) (out : List Int) (hn : n ≤ 1000000000000000) (hl : out.length ≤ 100) (hP : P ≤ 100) :
    spec_Decimal.l0 (k + 3) n P neg out P = spec_Decimal.l0 k ((n / 10 : Nat) : Int) P neg (dl n :: (if out = [] then [] else 46 :: out)) ((P + 1 : Nat) : Int) := by
  have e : spec_Decimal.l0 (k + 3) n P neg out P = spec_Decimal.j2 (k + 2) n P neg out P true := by
    rw [spec_Decimal.l0, if_neg (by omega)]
    by_cases h : (n : Int) > 0
    · rw [if_pos h]
    · rw [if_neg h]
      have : ((P : Int) == (P : Int)) = true := by simp
      rw [this]
  rw [e, spec_Decimal.j2, if_pos rfl, if_pos rfl, spec_Decimal.j3, dl_eq n hn, dq_eq n hn, di_eq P (by omega)]
  by_cases h : out = []
  · subst h
    rw [if_neg (by simp), if_neg (by omega), Option.bind_some, if_pos (by show 1 + 0 < _; omega), if_pos rfl]
    rfl
  · have h3 : decide ((out.length : Int) > 0) = true := decide_eq_true (by
      have : out.length ≠ 0 := fun c => h (List.length_eq_zero_iff.1 c)
      omega)
    rw [h3, if_pos rfl, Option.bind_some, if_pos (by simp only [List.length_cons, List.length_nil]; omega), Option.bind_some, if_neg (by omega), Option.bind_some, if_pos (by simp only [List.length_cons, List.length_nil, List.length_append]; omega), if_neg h]
    rfl
theorem stepC (k n P i : Nat) (neg : Bool) (out : List Int) (hn : n ≤ 1000000000000000) (hl : out.length ≤ 100) (hi : P < i) (hi2 : i ≤ 100) (h0 : 0 < n) :
    spec_Decimal.l0 (k + 3) n P neg out i = spec_Decimal.l0 k ((n / 10 : Nat) : Int) P neg (dl n :: out) ((i + 1 : Nat) : Int) := by
  rw [spec_Decimal.l0, if_neg (by omega), if_pos (by omega), spec_Decimal.j2, if_pos rfl, if_neg (by omega), spec_Decimal.j3, if_neg (by decide), if_neg (by omega), dl_eq n hn, dq_eq n hn, di_eq i (by omega), Option.bind_some, if_pos (by simp only [List.length_cons, List.length_nil]; omega)]
  rfl
theorem str_app (a b : List Int) : strOfNums (a ++ b) = strOfNums a ++ strOfNums b := by
  apply ByteArray.ext
  apply Array.ext'
  simp [strOfNums]
theorem stepD (k P i : Nat) (neg : Bool) (out : List Int) (hl : out.length ≤ 100) (hi : P < i) :
    spec_Decimal.l0 (k + 2) 0 P neg out i = some (strOfNums ((if neg then [45] else []) ++ out)) := by
  have hne : (((i : Int) == (P : Int)) = false) := by rw [beq_eq_false_iff_ne]; omega
  rw [spec_Decimal.l0, if_neg (by omega), if_neg (by decide), hne, spec_Decimal.j2, if_neg (by decide), strOfNums_size]
  cases neg
  · rw [if_neg (by decide)]
    rfl
  · rw [if_pos rfl, if_pos (by omega)]
    exact congrArg some (str_app [45] out).symm
def lowd (Q : Nat) : Nat → List Int
  | 0 => []
  | j + 1 => ltr Q j :: lowd Q j
theorem lowd_length (Q : Nat) : ∀ j, (lowd Q j).length = j
  | 0 => rfl
  | j + 1 => by rw [lowd, List.length_cons, lowd_length]
theorem lowd_eq (Q : Nat) : ∀ j, lowd Q j = (List.range j).map fun t => ltr Q (j - 1 - t)
  | 0 => rfl
  | j + 1 => by
    rw [lowd, lowd_eq Q j, List.range_succ_eq_map, List.map_cons, List.map_map]
    congr 1
    apply List.map_congr_left
    intro t _
    show ltr Q (j - 1 - t) = ltr Q (j + 1 - 1 - (t + 1))
    congr 1
    omega
theorem dig_lowd (Q : Nat) : dig Q = lowd Q (Lib.nDigits Q) := by rw [dig_eq, lowd_eq]
theorem dl_ltr (N i : Nat) : dl (N / 10 ^ i) = ltr N i := rfl
theorem pow_next (N i : Nat) : N / 10 ^ i / 10 = N / 10 ^ (i + 1) := by rw [Nat.div_div_eq_div_mul, Nat.pow_succ]
theorem nDigits_le' : ∀ (k u : Nat), u < 10 ^ (k + 1) → Lib.nDigits u ≤ k + 1
  | 0, u, h => by rw [Lib.nDigits_small (by simpa using h)]; exact Nat.le_refl _
  | k + 1, u, h => by
    by_cases hu : u < 10
    · rw [Lib.nDigits_small hu]; omega
    · rw [Lib.nDigits_big hu]
      have := nDigits_le' k (u / 10) (by rw [Nat.pow_succ] at h; omega)
      omega
theorem fr_len (N : Nat) : ∀ i, (fr N i).length ≤ i
  | 0 => Nat.le_refl _
  | i + 1 => by
    rw [fr]
    split
    · simp
    · have := fr_len N i
      rw [List.length_cons]; omega
theorem endC (Q P : Nat) (neg : Bool) (tail : List Int) (hQ : Q ≤ 1000000000000000) (hP : P ≤ 20) (ht : tail.length ≤ 30) : ∀ (d j : Nat), 1 ≤ j → j + d = Lib.nDigits Q →
    spec_Decimal.l0 (3 * d + 2) ((Q / 10 ^ j : Nat) : Int) P neg (lowd Q j ++ tail) ((P + j : Nat) : Int) = some (strOfNums ((if neg then [45] else []) ++ (dig Q ++ tail)))
  | 0, j, h1, h2 => by
    have h16 := nDigits_le' 15 Q (by rw [show 10 ^ (15 + 1) = 10000000000000000 from rfl]; omega)
    have hz : Q / 10 ^ j = 0 := Nat.div_eq_of_lt (by rw [show j = Lib.nDigits Q by omega]; exact Lib.lt_pow_nDigits Q)
    rw [hz, dig_lowd, ← h2]
    exact stepD 0 P (P + j) neg _ (by rw [List.length_append, lowd_length]; omega) (by omega)
  | d + 1, j, h1, h2 => by
    have h16 := nDigits_le' 15 Q (by rw [show 10 ^ (15 + 1) = 10000000000000000 from rfl]; omega)
    have hq : 0 < Q / 10 ^ j := by
      rcases Nat.lt_or_ge Q (10 ^ j) with g | g
      · exfalso
        have := nDigits_le' (j - 1) Q (by rw [show j - 1 + 1 = j by omega]; exact g)
        omega
      · exact Nat.div_pos g (Nat.pow_pos (by decide))
    have hle : Q / 10 ^ j ≤ Q := Nat.div_le_self _ _
    rw [show 3 * (d + 1) + 2 = 3 * d + 2 + 3 by omega, stepC _ _ _ _ neg _ (by omega) (by rw [List.length_append, lowd_length]; omega) (by omega) (by omega) hq, pow_next, dl_ltr]
    exact endC Q P neg tail hQ hP ht d (j + 1) (by omega) (by omega)
theorem endA (N P : Nat) (neg : Bool) (hN : N ≤ 1000000000000000) (hP : P ≤ 20) : ∀ (d i : Nat), i + d = P →
    spec_Decimal.l0 (3 * d + (3 * Lib.nDigits (N / 10 ^ P) + 2)) ((N / 10 ^ i : Nat) : Int) P neg (fr N i) (i : Int) = some (strOfNums ((if neg then [45] else []) ++ txt N P))
  | 0, i, h => by
    obtain rfl : i = P := by omega
    have hle : N / 10 ^ i ≤ N := Nat.div_le_self _ _
    have hpos := Lib.nDigits_pos (N / 10 ^ i)
    have hfl := fr_len N i
    rw [show 3 * 0 + (3 * Lib.nDigits (N / 10 ^ i) + 2) = 3 * (Lib.nDigits (N / 10 ^ i) - 1) + 2 + 3 by omega, stepB _ _ _ neg _ (by omega) (by omega) (by omega)]
    have h := endC (N / 10 ^ i) i neg (if fr N i = [] then [] else 46 :: fr N i) (by omega) hP (by split <;> simp <;> omega) (Lib.nDigits (N / 10 ^ i) - 1) 1 (Nat.le_refl _) (by omega)
    rw [Nat.pow_one] at h
    have e : dl (N / 10 ^ i) = ltr (N / 10 ^ i) 0 := by unfold dl ltr; rw [Nat.pow_zero, Nat.div_one]
    rw [e]
    exact h
  | d + 1, i, h => by
    have hle : N / 10 ^ i ≤ N := Nat.div_le_self _ _
    have hfl := fr_len N i
    rw [show 3 * (d + 1) + (3 * Lib.nDigits (N / 10 ^ P) + 2) = 3 * d + (3 * Lib.nDigits (N / 10 ^ P) + 2) + 3 by omega, stepA _ _ _ _ neg _ (by omega) (by omega) (by omega) (by omega), pow_next, dl_ltr]
    exact endA N P neg hN hP d (i + 1) (by omega)
theorem dec_law (N P : Nat) (neg : Bool) (hN : N ≤ 1000000000000000) (hP : P ≤ 20) : ∃ k, spec_Decimal.j0 k (N : Int) (P : Int) neg = some (strOfNums ((if neg then [45] else []) ++ txt N P)) := by
  refine ⟨3 * P + (3 * Lib.nDigits (N / 10 ^ P) + 2) + 1, ?_⟩
  have h := endA N P neg hN hP P 0 (by omega)
  rw [Nat.pow_zero, Nat.div_one] at h
  rw [spec_Decimal.j0]
  exact h
theorem dec_calls (n : Int) (P : Nat) (hn : n.natAbs ≤ 1000000000000000) (hP : P ≤ 20) (w : World) :
    Calls Tryd.prog 5 #[.int .i64 n, .int .i64 (P : Int)] w fun e w' => e = .returned (.string (strOfNums ((if decide (n < 0) then [45] else []) ++ txt n.natAbs P))) ∧ Below w.heap.size w w' := by
  by_cases h : n < 0
  · obtain ⟨k, hk⟩ := dec_law n.natAbs P true hn hP
    rw [decide_eq_true h]
    refine spec_Decimal.calls_neg k n P h _ w ?_
    have e : wrap64 (-n) = (n.natAbs : Int) := by unfold wrap64; omega
    rw [e]
    exact hk
  · obtain ⟨k, hk⟩ := dec_law n.natAbs P false hn hP
    rw [decide_eq_false h]
    refine spec_Decimal.calls_pos k n P (by omega) _ w ?_
    have e : n = (n.natAbs : Int) := by omega
    rw [← e] at hk
    exact hk
end Go.Proofs.YtkcbalikahmeiaaDoor.Aft
