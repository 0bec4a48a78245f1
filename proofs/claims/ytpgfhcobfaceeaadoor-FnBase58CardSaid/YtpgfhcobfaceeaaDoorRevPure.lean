/-
  A list turned round by exchanges, in plain words.
-/
import Derived.Test.YtpgfhcobfaceeaaDoorEncPure
namespace Go.Proofs.YtpgfhcobfaceeaaDoor.PFnBase58
open Val

theorem enc_len : ∀ (k : Nat) (x : List Int), (enc k x).length ≤ k
  | 0, _ => by simp [enc]
  | k + 1, x => by
    rw [enc]
    split
    · simp
    · have := enc_len k (strip (quot 0 x).1)
      simp; omega
theorem enc_nil : ∀ k, enc k [] = []
  | 0 => rfl
  | k + 1 => by rw [enc, if_pos rfl]

structure Rv (l : List Int) (m : Nat) (cur : List Int) : Prop where
  len : cur.length = l.length
  at_ : ∀ k, k < l.length → cur.getD k 0 = if k < m ∨ l.length - m ≤ k then l.getD (l.length - 1 - k) 0 else l.getD k 0

theorem rv_start (l : List Int) : Rv l 0 l := ⟨rfl, fun k hk => by rw [if_neg (by omega)]⟩

theorem getD_set (l : List Int) (i j : Nat) (v : Int) (hj : j < l.length) : (l.set i v).getD j 0 = if i = j then v else l.getD j 0 := by
  rw [List.getD_eq_getElem?_getD, List.getElem?_set, List.getD_eq_getElem?_getD]
  by_cases h : i = j
  · subst h; simp [hj]
  · simp [h]

theorem rv_step {l cur : List Int} {m : Nat} (h : Rv l m cur) (hm : m < l.length / 2) : Rv l (m + 1) ((cur.set m (cur.getD (l.length - 1 - m) 0)).set (l.length - 1 - m) (cur.getD m 0)) := by
  refine ⟨by simp [h.len], fun k hk => ?_⟩
  have hl := h.len
  have h1 := h.at_ m (by omega)
  have h2 := h.at_ (l.length - 1 - m) (by omega)
  rw [if_neg (by omega)] at h1
  rw [if_neg (by omega)] at h2
  rw [getD_set _ _ _ _ (by rw [List.length_set]; omega), getD_set _ _ _ _ (by omega), h1, h2, h.at_ k hk]
  by_cases e1 : l.length - 1 - m = k
  · subst e1
    rw [if_pos rfl, if_pos (by omega)]
    congr 1
    omega
  · rw [if_neg e1]
    by_cases e2 : m = k
    · subst e2
      rw [if_pos rfl, if_pos (by omega)]
    · rw [if_neg e2]
      by_cases e3 : k < m ∨ l.length - m ≤ k
      · rw [if_pos e3, if_pos (by omega)]
      · rw [if_neg e3, if_neg (by omega)]

theorem rv_end {l cur : List Int} (h : Rv l (l.length / 2) cur) : cur = l.reverse := by
  apply List.ext_getElem
  · rw [h.len, List.length_reverse]
  · intro i h1 h2
    have hl := h.len
    have e := h.at_ i (by omega)
    rw [List.getElem_reverse]
    rw [List.getD_eq_getElem?_getD, List.getElem?_eq_getElem h1, Option.getD_some] at e
    rw [e]
    split
    · rw [List.getD_eq_getElem?_getD, List.getElem?_eq_getElem (by omega), Option.getD_some]
    · rw [List.getD_eq_getElem?_getD, List.getElem?_eq_getElem (by omega), Option.getD_some]
      congr 1
      omega
end Go.Proofs.YtpgfhcobfaceeaaDoor.PFnBase58
