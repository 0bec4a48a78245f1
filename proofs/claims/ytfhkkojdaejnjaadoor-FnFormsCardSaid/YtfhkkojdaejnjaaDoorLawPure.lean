/-
  The law FnForms: its guards in plain words, the data's length.
-/
import Derived.Test.YtfhkkojdaejnjaaDoorFromNAll
namespace Go.Proofs.YtfhkkojdaejnjaaDoor.Gcs
open Go.RowKit Go.Proofs.YtfhkkojdaejnjaaDoor.Hand Go.Proofs.YtfhkkojdaejnjaaDoor.Buf Go.Proofs.YtfhkkojdaejnjaaDoor.PFnForms Go.Proofs.YtfhkkojdaejnjaaDoorW.PrintWords Go.Proofs.YtfhkkojdaejnjaaDoorW.PrintLast Go.Proofs.YtfhkkojdaejnjaaDoorW.PrintMore

/-! ### The guards' plain functions -/
theorem w64' {x : Int} (h1 : -9223372036854775808 ≤ x) (h2 : x ≤ 9223372036854775807) : wrap64 x = x := by unfold wrap64; omega
theorem rd_row (pre : List (List Int)) (x : List Int) (post : List (List Int)) (i : Int) (h : i = pre.length) : rd_L1 (pre ++ x :: post) i = x := by
  subst h; simp [rd_L1]
def allTo (m : Nat) (xs : List (List Int)) : Bool := xs.all fun b => decide (b.length ≤ m)

section
variable (xs : List (List Int)) (hl : xs.length ≤ 9223372036854775807)
include hl
theorem small_l0 : ∀ (rest done : List (List Int)), xs = done ++ rest → Ev (fun k => spec_IsSmall.l0 k xs xs (xs.length : Int) (done.length : Int)) (allTo 60 rest && decide (xs.length ≤ 20)) := by
  intro rest
  induction rest with
  | nil =>
    intro done hd
    refine Ev.step (f := fun _ => some _) (fun k => ?_) (Ev.now _)
    have hdl : xs.length = done.length := by rw [hd]; simp
    simp only [spec_IsSmall.l0]
    rw [if_neg (by omega)]
    simp [allTo]
    omega
  | cons x rest ih =>
    intro done hd
    have hdl : done.length < xs.length := by rw [hd]; simp
    have hrd : rd_L1 xs (done.length : Int) = x := by rw [hd]; exact rd_row done x rest _ rfl
    by_cases h : x.length ≤ 60
    · have := ih (done ++ [x]) (by rw [hd]; simp)
      have e : allTo 60 (x :: rest) = allTo 60 rest := by simp [allTo, h]
      rw [e]
      refine Ev.step (fun k => ?_) this
      simp only [spec_IsSmall.l0]
      rw [hrd, if_pos (by omega), if_pos (by omega), if_pos (by omega), if_neg (by omega), w64' (by omega) (by omega)]
      simp
    · have e : allTo 60 (x :: rest) = false := by simp [allTo, h]
      rw [e, Bool.false_and]
      refine Ev.step (f := fun _ => some _) (fun k => ?_) (Ev.now _)
      simp only [spec_IsSmall.l0]
      rw [hrd, if_pos (by omega), if_pos (by omega), if_pos (by omega), if_pos (by omega)]
theorem zz_l0 : ∀ (rest done : List (List Int)), xs = done ++ rest → Ev (fun k => laws_zzFits2.l0 k xs (xs.length : Int) (done.length : Int)) (allTo 2147483647 rest) := by
  intro rest
  induction rest with
  | nil =>
    intro done hd
    refine Ev.step (f := fun _ => some _) (fun k => ?_) (Ev.now _)
    have hdl : xs.length = done.length := by rw [hd]; simp
    simp only [laws_zzFits2.l0]
    rw [if_neg (by omega)]
    simp [allTo]
  | cons x rest ih =>
    intro done hd
    have hdl : done.length < xs.length := by rw [hd]; simp
    have hrd : rd_L1 xs (done.length : Int) = x := by rw [hd]; exact rd_row done x rest _ rfl
    by_cases h : x.length ≤ 2147483647
    · have := ih (done ++ [x]) (by rw [hd]; simp)
      have e : allTo 2147483647 (x :: rest) = allTo 2147483647 rest := by simp [allTo, h]
      rw [e]
      refine Ev.step (fun k => ?_) this
      simp only [laws_zzFits2.l0]
      rw [hrd, if_pos (by omega), if_pos (by omega), if_pos (by omega), if_neg (by omega), w64' (by omega) (by omega)]
      simp
    · have e : allTo 2147483647 (x :: rest) = false := by simp [allTo, h]
      rw [e]
      refine Ev.step (f := fun _ => some _) (fun k => ?_) (Ev.now _)
      simp only [laws_zzFits2.l0]
      rw [hrd, if_pos (by omega), if_pos (by omega), if_pos (by omega), if_pos (by omega)]
theorem small_is : ∃ k, spec_IsSmall.f k xs = some (allTo 60 xs && decide (xs.length ≤ 20)) := (small_l0 xs hl xs [] rfl).rounds
theorem zz_is : ∃ k b, laws_zzFits2.f k xs = some b ∧ (b = true → xs.length ≤ 2147483647) := by
  by_cases h : (xs.length : Int) > 2147483647
  · exact ⟨0, false, by unfold laws_zzFits2.f; rw [if_pos h], fun h => by cases h⟩
  · obtain ⟨k, hk⟩ := (zz_l0 xs hl xs [] rfl).rounds
    exact ⟨k, _, by unfold laws_zzFits2.f; rw [if_neg h]; exact hk, fun _ => by omega⟩
end

theorem pow24 : ∀ q : Nat, 1 ≤ q → q ≤ 24 → shl .u64 16 (q : Int) = 16 * 2 ^ q ∧ (16 : Int) * 2 ^ q ≤ shl .u64 64 (q : Int) := by
  intro q h1 h2
  have : ∀ j : Fin 25, shl .u64 16 (j.val : Int) = 16 * 2 ^ j.val ∧ (16 : Int) * 2 ^ j.val ≤ shl .u64 64 (j.val : Int) := by decide
  exact this ⟨q, by omega⟩
theorem coded_is (p m : Int) : ∃ b, laws_isCoded.f p m = some b ∧ (b = true → 1 ≤ p ∧ p ≤ 24 ∧ 1 ≤ m ∧ m ≤ 16 * 2 ^ p.toNat ∧ impl_coded.f p m = some true) := by
  unfold laws_isCoded.f
  by_cases h1 : p ≥ 1
  · rw [if_pos h1]
    by_cases h2 : p ≤ 24
    · rw [if_pos h2]
      by_cases h3 : m ≥ 1
      · rw [if_pos h3, if_pos (by omega)]
        refine ⟨_, rfl, fun h => ?_⟩
        have h := of_decide_eq_true h
        have e : ((p.toNat : Nat) : Int) = p := by omega
        obtain ⟨q1, q2⟩ := pow24 p.toNat (by omega) (by omega)
        rw [e] at q1 q2
        rw [q1] at h
        refine ⟨h1, h2, h3, h, ?_⟩
        unfold impl_coded.f
        rw [if_pos (by omega), if_pos (by omega)]
        congr 1
        exact decide_eq_true (Int.le_trans h q2)
      · rw [if_neg h3]; exact ⟨_, rfl, fun h => by cases h⟩
    · rw [if_neg h2]; exact ⟨_, rfl, fun h => by cases h⟩
  · rw [if_neg h1]; exact ⟨_, rfl, fun h => by cases h⟩
theorem same_is (a : List Int) : laws_same.f a a = some true := by unfold laws_same.f; simp
theorem diffB_length {p : Nat} {d : Int} (hp : p ≤ 24) (hd : d < 320 * 2 ^ p) : (diffB p d).length ≤ 345 := by
  unfold diffB
  simp only [List.length_append, List.length_replicate, List.length_singleton, restB_length]
  have h2 : (0 : Int) < 2 ^ p := Int.pow_pos (by decide)
  have h : d / 2 ^ p < 320 := Int.ediv_lt_of_lt_mul h2 hd
  omega
theorem bitsB_length {p : Nat} {L : List Int} {f : Int} (hp : p ≤ 24) (hf : f ≤ 320 * 2 ^ p) (hf0 : 0 < f) (hL : ∀ x ∈ L, 0 ≤ x ∧ x < f) : ∀ k, (bitsB p L k).length ≤ 345 * k
  | 0 => Nat.le_refl _
  | k + 1 => by
    have key : ∀ i, 0 ≤ L.getD i 0 ∧ L.getD i 0 < f := fun i => by
      rw [List.getD_eq_getElem?_getD]
      rcases hx : L[i]? with _ | x
      · exact ⟨Int.le_refl _, hf0⟩
      · exact hL x (List.mem_of_getElem? hx)
    have h1 := bitsB_length hp hf hf0 hL k
    unfold bitsB
    rw [List.length_append]
    have h2 := (key k).2
    have h3 := (key (k - 1)).1
    have h4 : (diffB p (L.getD k 0 - (if k = 0 then 0 else L.getD (k - 1) 0))).length ≤ 345 := diffB_length hp (by split <;> omega)
    omega
theorem bitsB_pos {p : Nat} {L : List Int} {k : Nat} (h : 1 ≤ k) : 0 < (bitsB p L k).length := by
  obtain ⟨k, rfl⟩ : ∃ j, k = j + 1 := ⟨k - 1, by omega⟩
  unfold bitsB diffB
  simp
  omega
/-- The data that is coded. -/
def dataI (p : Nat) (f : Int) (ks : List Int) (items : List (List Int)) (n : Nat) : List Int := outB (bitsB p (valsI ks f items) n) (bitsB p (valsI ks f items) n).length
theorem dataI_length {p : Nat} {f : Int} {ks : List Int} {items : List (List Int)} {n : Nat} (hp : p ≤ 24) (hf : f ≤ 320 * 2 ^ p) (hf0 : 0 < f) (h1 : 1 ≤ n) (h20 : n ≤ 20) : 1 ≤ (dataI p f ks items n).length ∧ (dataI p f ks items n).length ≤ 870 := by
  unfold dataI
  rw [(outB_facts _ _).1]
  have h := bitsB_length hp hf hf0 (valsI_facts ks f hf0 items).2.2 n
  have h2 : 0 < (bitsB p (valsI ks f items) n).length := bitsB_pos h1
  omega
/-- A number that is no more than the bound: its product. -/
theorem f_facts {p : Nat} {m : Int} {n : Nat} (hp : p ≤ 24) (hm1 : 1 ≤ m) (hm : m ≤ 16 * 2 ^ p) (h1 : 1 ≤ n) (h20 : n ≤ 20) : IntKind.u64.wrap ((n : Int) * m) = (n : Int) * m ∧ 0 < (n : Int) * m ∧ (n : Int) * m ≤ 320 * 2 ^ p := by
  have hp2 : (2 : Int) ^ p ≤ 16777216 := by
    have h : (2 : Nat) ^ p ≤ 16777216 := Nat.le_trans (Nat.pow_le_pow_right (by decide) hp) (by decide)
    have h2 := Int.ofNat_le.2 h
    rw [Int.natCast_pow] at h2
    exact h2
  have q1 : 0 < (n : Int) * m := Int.mul_pos (by omega) (by omega)
  have q2 : (n : Int) * m ≤ 20 * (16 * 2 ^ p) := Int.mul_le_mul (by omega) hm (by omega) (by omega)
  have q3 : (n : Int) * m ≤ 320 * 2 ^ p := by omega
  exact ⟨wrap_id (by omega) (by omega), q1, q3⟩
end Go.Proofs.YtfhkkojdaejnjaaDoor.Gcs
