/-
  The coded set in plain words: values in their order, their bits, the bytes.
-/
import Derived.Test.YtfhkkojdaejnjaaDoorHighPure
namespace Go.Proofs.YtfhkkojdaejnjaaDoor.Gcs
open Go.RowKit Go.Proofs.YtfhkkojdaejnjaaDoor.Hand Go.Proofs.YtfhkkojdaejnjaaDoor.PFnForms Go.Proofs.YtfhkkojdaejnjaaDoorW.PrintWords Go.Proofs.YtfhkkojdaejnjaaDoorW.PrintLast Go.Proofs.YtfhkkojdaejnjaaDoorW.PrintMore

/-- A value on its way to its place. -/
def curI (l : List Int) (v : Int) (k : Nat) : List Int := l.take k ++ v :: l.drop k
def posI (l : List Int) (v : Int) : Nat → Nat
  | 0 => 0
  | k + 1 => if l.getD k 0 > v then posI l v k else k + 1
def insI (l : List Int) (v : Int) : List Int := curI l v (posI l v l.length)
theorem curI_length (l : List Int) (v : Int) (k : Nat) (h : k ≤ l.length) : (curI l v k).length = l.length + 1 := by unfold curI; simp; omega
theorem curI_end (l : List Int) (v : Int) : curI l v l.length = l ++ [v] := by unfold curI; simp
theorem curI_prev (l : List Int) (v : Int) (k : Nat) (h : k < l.length) : (curI l v (k + 1)).getD k 0 = l.getD k 0 := by
  unfold curI
  rw [List.getD_eq_getElem?_getD, List.getElem?_append_left (by simp; omega), List.getElem?_take_of_lt (by omega), List.getD_eq_getElem?_getD]
theorem curI_swap (l : List Int) (v : Int) (k : Nat) (h : k < l.length) : ((curI l v (k + 1)).set (k + 1) (l.getD k 0)).set k v = curI l v k := by
  apply List.ext_getElem?
  intro i
  unfold curI
  simp only [List.getElem?_set, List.getElem?_append, List.length_take, List.length_append, List.length_cons, List.length_drop, List.length_set]
  have e1 : min (k + 1) l.length = k + 1 := by omega
  have e2 : min k l.length = k := by omega
  rw [e1, e2]
  by_cases h1 : k = i
  · subst h1
    rw [if_pos rfl, if_pos (by omega), if_neg (by omega), Nat.sub_self]
    rfl
  · rw [if_neg h1]
    by_cases h2 : k + 1 = i
    · subst h2
      rw [if_pos rfl, if_pos (by omega), if_neg (by omega), show k + 1 - k = 0 + 1 by omega, List.getElem?_cons_succ, List.getElem?_drop, List.getD_eq_getElem?_getD, List.getElem?_eq_getElem h]
      simp [h]
    · rw [if_neg h2]
      by_cases h3 : i < k
      · rw [if_pos (by omega), if_pos h3, List.getElem?_take_of_lt (by omega), List.getElem?_take_of_lt h3]
      · rw [if_neg (by omega), if_neg h3]
        obtain ⟨j, rfl⟩ : ∃ j, i = k + 2 + j := ⟨i - (k + 2), by omega⟩
        rw [show k + 2 + j - (k + 1) = j + 1 by omega, show k + 2 + j - k = (j + 1) + 1 by omega, List.getElem?_cons_succ, List.getElem?_cons_succ, List.getElem?_drop, List.getElem?_drop]
        congr 1; omega
theorem posI_le (l : List Int) (v : Int) : ∀ k, posI l v k ≤ k
  | 0 => Nat.le_refl _
  | k + 1 => by
    unfold posI
    split
    · exact Nat.le_succ_of_le (posI_le l v k)
    · exact Nat.le_refl _
theorem posI_above (l : List Int) (v : Int) : ∀ k j, posI l v k ≤ j → j < k → l.getD j 0 > v
  | 0, j, _, h => absurd h (Nat.not_lt_zero _)
  | k + 1, j, h1, h2 => by
    unfold posI at h1
    split at h1
    · rename_i hg
      by_cases e : j = k
      · subst e; exact hg
      · exact posI_above l v k j h1 (by omega)
    · omega
theorem posI_below (l : List Int) (v : Int) : ∀ k, 0 < posI l v k → l.getD (posI l v k - 1) 0 ≤ v
  | 0, h => absurd h (Nat.not_lt_zero _)
  | k + 1, h => by
    unfold posI at h ⊢
    split
    · rename_i hg
      rw [if_pos hg] at h
      exact posI_below l v k h
    · rename_i hg
      show l.getD k 0 ≤ v
      omega
def Srt (l : List Int) : Prop := l.Pairwise (· ≤ ·)
theorem getD_mem {l : List Int} {i : Nat} (h : i < l.length) : l.getD i 0 = l[i] := by simp [List.getD_eq_getElem?_getD, h]
theorem insI_srt {l : List Int} (h : Srt l) (v : Int) : Srt (insI l v) := by
  unfold Srt insI curI
  have hle := posI_le l v l.length
  refine List.pairwise_append.2 ⟨h.sublist (List.take_sublist _ _), List.pairwise_cons.2 ⟨fun y hy => ?_, h.sublist (List.drop_sublist _ _)⟩, fun x hx y hy => ?_⟩
  · obtain ⟨i, hi, rfl⟩ := List.getElem_of_mem hy
    rw [List.length_drop] at hi
    rw [List.getElem_drop]
    have := posI_above l v l.length (posI l v l.length + i) (by omega) (by omega)
    rw [getD_mem (by omega)] at this
    omega
  · obtain ⟨i, hi, rfl⟩ := List.getElem_of_mem hx
    rw [List.length_take] at hi
    rw [List.getElem_take]
    have hp : 0 < posI l v l.length := by omega
    have hb := posI_below l v l.length hp
    rw [getD_mem (by omega)] at hb
    have hxv : l[i] ≤ v := by
      by_cases e : i = posI l v l.length - 1
      · subst e; exact hb
      · exact Int.le_trans (List.pairwise_iff_getElem.1 h i (posI l v l.length - 1) (by omega) (by omega) (by omega)) hb
    rcases List.mem_cons.1 hy with rfl | hy
    · exact hxv
    · obtain ⟨j, hj, rfl⟩ := List.getElem_of_mem hy
      rw [List.length_drop] at hj
      rw [List.getElem_drop]
      exact List.pairwise_iff_getElem.1 h _ _ (by omega) (by omega) (by omega)
theorem insI_mem {l : List Int} {v x : Int} (h : x ∈ insI l v) : x = v ∨ x ∈ l := by
  unfold insI curI at h
  rcases List.mem_append.1 h with h | h
  · exact .inr (List.take_subset _ _ h)
  · rcases List.mem_cons.1 h with h | h
    · exact .inl h
    · exact .inr (List.drop_subset _ _ h)
/-- The items' values, in their order. -/
def valI (ks : List Int) (f : Int) (b : List Int) : Int := sipP ks b * f / 18446744073709551616
def valsI (ks : List Int) (f : Int) (bs : List (List Int)) : List Int := bs.foldl (fun l b => insI l (valI ks f b)) []
theorem valsI_snoc (ks : List Int) (f : Int) (bs : List (List Int)) (b : List Int) : valsI ks f (bs ++ [b]) = insI (valsI ks f bs) (valI ks f b) := by unfold valsI; rw [List.foldl_append]; rfl
theorem valsI_aux (ks : List Int) (f : Int) (hf : 0 < f) : ∀ (bs : List (List Int)) (acc : List Int), Srt acc → (∀ x ∈ acc, 0 ≤ x ∧ x < f) →
    Srt (bs.foldl (fun l b => insI l (valI ks f b)) acc) ∧ (bs.foldl (fun l b => insI l (valI ks f b)) acc).length = acc.length + bs.length ∧ ∀ x ∈ bs.foldl (fun l b => insI l (valI ks f b)) acc, 0 ≤ x ∧ x < f
  | [], acc, h1, h2 => ⟨h1, rfl, h2⟩
  | b :: t, acc, h1, h2 => by
    have hs := sip_lo ks b
    obtain ⟨q1, q2, q3⟩ := valsI_aux ks f hf t (insI acc (valI ks f b)) (insI_srt h1 _) (fun x hx => by
      rcases insI_mem hx with rfl | hx
      · exact high_lt _ _ hs.1 hs.2 hf
      · exact h2 x hx)
    refine ⟨q1, ?_, q3⟩
    rw [List.foldl_cons, q2]
    unfold insI
    rw [curI_length _ _ _ (posI_le _ _ _), List.length_cons]
    omega
theorem valsI_facts (ks : List Int) (f : Int) (hf : 0 < f) (bs : List (List Int)) : Srt (valsI ks f bs) ∧ (valsI ks f bs).length = bs.length ∧ ∀ x ∈ valsI ks f bs, 0 ≤ x ∧ x < f := by
  have h := valsI_aux ks f hf bs [] List.Pairwise.nil (fun x hx => by cases hx)
  rw [List.length_nil, Nat.zero_add] at h
  exact h
/-- The bits of a difference: as many ones as it has times 2^p, a zero, the rest. -/
def restB (p : Nat) (d : Int) : Nat → List Int
  | 0 => []
  | k + 1 => restB p d k ++ [d / 2 ^ (p - (k + 1)) % 2]
def diffB (p : Nat) (d : Int) : List Int := List.replicate (d / 2 ^ p).toNat 1 ++ [0] ++ restB p d p
def bitsB (p : Nat) (l : List Int) : Nat → List Int
  | 0 => []
  | k + 1 => bitsB p l k ++ diffB p (l.getD k 0 - (if k = 0 then 0 else l.getD (k - 1) 0))
theorem restB_length (p : Nat) (d : Int) : ∀ k, (restB p d k).length = k
  | 0 => rfl
  | k + 1 => by unfold restB; rw [List.length_append, restB_length p d k]; rfl
theorem restB_bit (p : Nat) (d : Int) : ∀ k, ∀ x ∈ restB p d k, x = 0 ∨ x = 1
  | 0, x, h => by cases h
  | k + 1, x, h => by
    unfold restB at h
    rcases List.mem_append.1 h with h | h
    · exact restB_bit p d k x h
    · rw [List.mem_singleton.1 h]; omega
theorem bitsB_bit (p : Nat) (l : List Int) : ∀ k, ∀ x ∈ bitsB p l k, x = 0 ∨ x = 1
  | 0, x, h => by cases h
  | k + 1, x, h => by
    unfold bitsB at h
    rcases List.mem_append.1 h with h | h
    · exact bitsB_bit p l k x h
    · unfold diffB at h
      rcases List.mem_append.1 h with h | h
      · rcases List.mem_append.1 h with h | h
        · exact .inr (List.eq_of_mem_replicate h)
        · exact .inl (List.mem_singleton.1 h)
      · exact restB_bit p _ p x h
/-- The bytes of bits. -/
def setB (o : List Int) (i : Nat) (b : Int) : List Int := o.set (i / 8) (Go.bits .or .u8 (o.getD (i / 8) 0) (IntKind.u8.wrap (b * 2 ^ (7 - i % 8))))
def outB (bs : List Int) : Nat → List Int
  | 0 => List.replicate ((bs.length + 7) / 8) 0
  | k + 1 => setB (outB bs k) k (bs.getD k 0)
theorem outB_facts (bs : List Int) : ∀ k, (outB bs k).length = (bs.length + 7) / 8 ∧ ∀ x ∈ outB bs k, 0 ≤ x ∧ x < 256
  | 0 => ⟨by simp [outB], fun x hx => by rw [List.eq_of_mem_replicate hx]; decide⟩
  | k + 1 => by
    obtain ⟨h1, h2⟩ := outB_facts bs k
    refine ⟨by unfold outB setB; rw [List.length_set, h1], fun x hx => ?_⟩
    unfold outB setB at hx
    rcases List.mem_or_eq_of_mem_set hx with h | h
    · exact h2 x h
    · rw [h]
      exact ⟨bits_lo_u8 _ _ _, by have := bits_hi_u8 .or ((outB bs k).getD (k / 8) 0) (IntKind.u8.wrap (bs.getD k 0 * 2 ^ (7 - k % 8))); omega⟩
end Go.Proofs.YtfhkkojdaejnjaaDoor.Gcs
