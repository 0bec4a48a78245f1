/-
  Insertion sort and two orders, in plain words.
-/
import Derived.Test.YtpggphjnghhmeaaPieces
namespace Go.Proofs.Ytpggphjnghhmeaa.Srt

/-! ### The sort -/
section
variable {α : Type} [Inhabited α]
/-- The element k and the next one, exchanged. -/
def sw (l : List α) (k : Nat) : List α := (l.set k (l.getD (k + 1) default)).set (k + 1) (l.getD k default)
theorem sw_length (l : List α) (k : Nat) : (sw l k).length = l.length := by unfold sw; simp
theorem sw_get (l : List α) (k i : Nat) (h : k + 1 < l.length) : (sw l k).getD i default = if i = k + 1 then l.getD k default else if i = k then l.getD (k + 1) default else l.getD i default := by
  unfold sw
  simp only [List.getD_eq_getElem?_getD, List.getElem?_set, List.length_set]
  by_cases h1 : i = k + 1
  · subst h1
    rw [if_pos rfl, if_pos h, if_pos rfl]; rfl
  · rw [if_neg (Ne.symm h1), if_neg h1]
    by_cases h2 : i = k
    · subst h2
      rw [if_pos rfl, if_pos (by omega), if_pos rfl]; rfl
    · rw [if_neg (Ne.symm h2), if_neg h2]
variable (less : α → α → Bool)
def bub : Nat → List α → List α
  | 0, l => l
  | k + 1, l => if less (l.getD (k + 1) default) (l.getD k default) = true then bub k (sw l k) else l
def srt : Nat → List α → List α
  | 0, l => l
  | i + 1, l => bub less i (srt i l)
def adj (l : List α) (m : Nat) : Prop := ∀ i, i + 1 < m → less (l.getD (i + 1) default) (l.getD i default) = false
theorem bub_length : ∀ (k : Nat) (l : List α), (bub less k l).length = l.length
  | 0, l => rfl
  | k + 1, l => by
    unfold bub
    split
    · rw [bub_length k, sw_length]
    · rfl
theorem srt_length : ∀ (i : Nat) (l : List α), (srt less i l).length = l.length
  | 0, l => rfl
  | i + 1, l => by unfold srt; rw [bub_length, srt_length i l]
theorem srt_of_adj (l : List α) : ∀ m, adj less l m → srt less m l = l
  | 0, _ => rfl
  | i + 1, h => by
    unfold srt
    rw [srt_of_adj l i (fun j hj => h j (by omega))]
    cases i with
    | zero => rfl
    | succ k => unfold bub; rw [h k (by omega)]; simp
variable (asym : ∀ x y, less x y = true → less y x = false)
include asym
theorem bub_adj (m : Nat) : ∀ (k : Nat) (l : List α), m < l.length → k ≤ m → (∀ i, i + 1 ≤ m → i + 1 ≠ k → less (l.getD (i + 1) default) (l.getD i default) = false) → (1 ≤ k → k + 1 ≤ m → less (l.getD (k + 1) default) (l.getD (k - 1) default) = false) → adj less (bub less k l) (m + 1)
  | 0, l, hm, hk, h1, h2 => fun i hi => h1 i (by omega) (by omega)
  | k + 1, l, hm, hk, h1, h2 => by
    unfold bub
    split
    · rename_i hl
      refine bub_adj m k (sw l k) (by rw [sw_length]; exact hm) (by omega) (fun i hi hne => ?_) (fun hk1 hk2 => ?_)
      · rw [sw_get _ _ _ (by omega), sw_get _ _ _ (by omega)]
        by_cases e1 : i = k
        · subst e1
          rw [if_pos rfl, if_neg (by omega), if_pos rfl]
          exact asym _ _ hl
        · by_cases e2 : i = k + 1
          · subst e2
            rw [if_neg (by omega), if_neg (by omega), if_pos rfl]
            exact h2 (by omega) hi
          · rw [if_neg (by omega), if_neg (by omega), if_neg (by omega), if_neg (by omega)]
            exact h1 i hi (by omega)
      · rw [sw_get _ _ _ (by omega), sw_get _ _ _ (by omega), if_pos rfl, if_neg (by omega), if_neg (by omega)]
        have := h1 (k - 1) (by omega) (by omega)
        rw [show k - 1 + 1 = k by omega] at this
        exact this
    · rename_i hl
      intro i hi
      by_cases e : i = k
      · subst e; simpa using hl
      · exact h1 i (by omega) (by omega)
theorem srt_adj (l : List α) : ∀ m, m ≤ l.length → adj less (srt less m l) m
  | 0, _ => fun i hi => absurd hi (Nat.not_lt_zero _)
  | i + 1, h => by
    unfold srt
    refine bub_adj less asym i i (srt less i l) (by rw [srt_length]; omega) (Nat.le_refl _) (fun j hj hne => ?_) (fun _ h2 => absurd h2 (by omega))
    exact srt_adj l i (by omega) j (by omega)
theorem srt_fix (l : List α) : srt less l.length l = l ↔ adj less l l.length := by
  refine ⟨fun h => ?_, srt_of_adj less l _⟩
  have := srt_adj less asym l l.length (Nat.le_refl _)
  rwa [h] at this
end

/-! ### Bytes in their order -/
def ltB : List Int → List Int → Bool
  | [], [] => false
  | [], _ :: _ => true
  | _ :: _, [] => false
  | a :: s, b :: t => if a = b then ltB s t else decide (a < b)
theorem ltB_asym : ∀ x y, ltB x y = true → ltB y x = false
  | [], [], h => by cases h
  | [], _ :: _, _ => rfl
  | _ :: _, [], h => by cases h
  | a :: s, b :: t, h => by
    unfold ltB at h ⊢
    by_cases e : a = b
    · subst e
      rw [if_pos rfl] at h ⊢
      exact ltB_asym s t h
    · rw [if_neg e] at h
      rw [if_neg (Ne.symm e)]
      have := of_decide_eq_true h
      exact decide_eq_false (by omega)
def cmpB : List Int → List Int → Int
  | [], [] => 0
  | [], _ :: _ => -1
  | _ :: _, [] => 1
  | a :: s, b :: t => if a = b then cmpB s t else if a < b then -1 else 1
theorem cmpB_cases : ∀ x y, (cmpB x y = -1 ∧ ltB x y = true) ∨ (cmpB x y = 0 ∧ ltB x y = false) ∨ (cmpB x y = 1 ∧ ltB x y = false)
  | [], [] => .inr (.inl ⟨rfl, rfl⟩)
  | [], _ :: _ => .inl ⟨rfl, rfl⟩
  | _ :: _, [] => .inr (.inr ⟨rfl, rfl⟩)
  | a :: s, b :: t => by
    unfold cmpB ltB
    by_cases e : a = b
    · rw [if_pos e, if_pos e]; exact cmpB_cases s t
    · rw [if_neg e, if_neg e]
      by_cases h : a < b
      · rw [if_pos h]; exact .inl ⟨rfl, decide_eq_true h⟩
      · rw [if_neg h]; exact .inr (.inr ⟨rfl, decide_eq_false h⟩)
theorem cmpB_neg (x y : List Int) : decide (cmpB x y < 0) = ltB x y := by
  rcases cmpB_cases x y with ⟨h1, h2⟩ | ⟨h1, h2⟩ | ⟨h1, h2⟩ <;> rw [h1, h2] <;> rfl
theorem cmpB_m1 (x y : List Int) : decide (cmpB x y = -1) = ltB x y := by
  rcases cmpB_cases x y with ⟨h1, h2⟩ | ⟨h1, h2⟩ | ⟨h1, h2⟩ <;> rw [h1, h2] <;> rfl
theorem cmpB_skip (x y : List Int) : ∀ k, k ≤ x.length → k ≤ y.length → (∀ i, i < k → x.getD i 0 = y.getD i 0) → cmpB x y = cmpB (x.drop k) (y.drop k)
  | 0, _, _, _ => rfl
  | k + 1, h1, h2, h => by
    rw [cmpB_skip x y k (by omega) (by omega) (fun i hi => h i (by omega))]
    have hx : x.drop k = x.getD k 0 :: x.drop (k + 1) := by rw [List.drop_eq_getElem_cons (by omega), List.getD_eq_getElem?_getD, List.getElem?_eq_getElem (by omega)]; rfl
    have hy : y.drop k = y.getD k 0 :: y.drop (k + 1) := by rw [List.drop_eq_getElem_cons (by omega), List.getD_eq_getElem?_getD, List.getElem?_eq_getElem (by omega)]; rfl
    rw [hx, hy]
    rw [cmpB, if_pos (h k (by omega))]

/-! ### Inputs and outputs -/
structure In40 where
  h : List Int
  i : Int
  deriving DecidableEq
instance : Inhabited In40 := ⟨⟨[], 0⟩⟩
def lessI (x y : In40) : Bool := if x.h = y.h then decide (x.i < y.i) else ltB x.h.reverse y.h.reverse
theorem lessI_asym (x y : In40) (h : lessI x y = true) : lessI y x = false := by
  unfold lessI at h ⊢
  by_cases e : x.h = y.h
  · rw [if_pos e] at h
    rw [if_pos e.symm]
    have := of_decide_eq_true h
    exact decide_eq_false (by omega)
  · rw [if_neg e] at h
    rw [if_neg (Ne.symm e)]
    exact ltB_asym _ _ h
/-- The reference's way: from the last byte down. -/
def lnI (x y : In40) : Nat → Bool
  | 0 => decide (x.i < y.i)
  | k + 1 => if x.h.getD k 0 = y.h.getD k 0 then lnI x y k else decide (x.h.getD k 0 < y.h.getD k 0)
theorem lnI_is (x y : In40) : ∀ k, k ≤ x.h.length → k ≤ y.h.length → lnI x y k = if x.h.take k = y.h.take k then decide (x.i < y.i) else ltB (x.h.take k).reverse (y.h.take k).reverse
  | 0, _, _ => by unfold lnI; simp
  | k + 1, h1, h2 => by
    unfold lnI
    have ex : x.h.take (k + 1) = x.h.take k ++ [x.h.getD k 0] := by rw [List.take_add_one, List.getD_eq_getElem?_getD, List.getElem?_eq_getElem (by omega)]; rfl
    have ey : y.h.take (k + 1) = y.h.take k ++ [y.h.getD k 0] := by rw [List.take_add_one, List.getD_eq_getElem?_getD, List.getElem?_eq_getElem (by omega)]; rfl
    have ih := lnI_is x y k (by omega) (by omega)
    rw [ih, ex, ey, List.reverse_append, List.reverse_append]
    simp only [List.reverse_cons, List.reverse_nil, List.nil_append, List.singleton_append, ltB]
    by_cases e : x.h.getD k 0 = y.h.getD k 0
    · rw [if_pos e, e, if_pos rfl]
      simp
    · rw [if_neg e, if_neg e]
      have : ¬ (x.h.take k ++ [x.h.getD k 0] = y.h.take k ++ [y.h.getD k 0]) := fun h => e (by
        have := List.append_inj_right h (by simp; omega)
        simpa using this)
      rw [if_neg this]
theorem lnI_32 (x y : In40) (hx : x.h.length = 32) (hy : y.h.length = 32) : lnI x y 32 = lessI x y := by
  rw [lnI_is x y 32 (by omega) (by omega), List.take_of_length_le (by omega), List.take_of_length_le (by omega)]
  rfl
open PFnSorted in
def lessO (x y : S27) : Bool := if x.f0 = y.f0 then ltB x.f1 y.f1 else decide (x.f0 < y.f0)
open PFnSorted in
instance : Inhabited S27 := ⟨z27⟩
open PFnSorted in
theorem lessO_asym (x y : S27) (h : lessO x y = true) : lessO y x = false := by
  unfold lessO at h ⊢
  by_cases e : x.f0 = y.f0
  · rw [if_pos e] at h
    rw [if_pos e.symm]
    exact ltB_asym _ _ h
  · rw [if_neg e] at h
    rw [if_neg (Ne.symm e)]
    have := of_decide_eq_true h
    exact decide_eq_false (by omega)
end Go.Proofs.Ytpggphjnghhmeaa.Srt
