/-
  What the steps do, in plain words; the guards.
-/
import Derived.Test.YtkmcoaidlnaliaaCoinsWalk
namespace Go.Proofs.Ytkmcoaidlnaliaa.Purse
open Go.RowKit Go.Proofs.Ytkmcoaidlnaliaa.Hand Go.Proofs.Ytkmcoaidlnaliaa.PFnPurse Go.Proofs.YtkmcoaidlnaliaaW.PrintWords Go.Proofs.YtkmcoaidlnaliaaW.PrintLast Go.Proofs.YtkmcoaidlnaliaaW.PrintMore

structure St where
  left : List Nat
  next : Nat
  taken : List Int
def stp (s : Int) (σ : St) : St :=
  if s = 0 then ⟨σ.left ++ [σ.next], σ.next + 1, σ.taken⟩
  else if s = 1 then (match σ.left.getLast? with
    | none => ⟨[], σ.next, σ.taken ++ [-1]⟩
    | some i => ⟨σ.left.dropLast, σ.next, σ.taken ++ [(i : Int)]⟩)
  else (match σ.left with
    | [] => ⟨[], σ.next, σ.taken ++ [-1]⟩
    | i :: t => ⟨t, σ.next, σ.taken ++ [(i : Int)]⟩)
def okS (n : Nat) (s : Int) (σ : St) : Prop := 0 ≤ s ∧ s ≤ 2 ∧ (s = 0 → σ.next < n)
def runS (steps : List Int) (i : Nat) : St := (steps.take i).foldl (fun σ s => stp s σ) ⟨[], 0, []⟩
theorem runS_zero (steps : List Int) : runS steps 0 = ⟨[], 0, []⟩ := rfl
theorem runS_succ (steps : List Int) (i : Nat) (h : i < steps.length) : runS steps (i + 1) = stp (steps.getD i 0) (runS steps i) := by
  unfold runS
  rw [List.take_succ_eq_append_getElem h, List.foldl_append, List.getD_eq_getElem?_getD, List.getElem?_eq_getElem h]
  rfl
/-- What holds of every state that is reached. -/
structure Fine (n i : Nat) (σ : St) : Prop where
  next : σ.next ≤ n
  low : ∀ k ∈ σ.left, k < σ.next
  len : σ.left.length ≤ σ.next
  tak : σ.taken.length ≤ i
  rng : ∀ x ∈ σ.taken, -1 ≤ x ∧ x < n
theorem Fine.stp {n i : Nat} {σ : St} {s : Int} (h : Fine n i σ) (hs : okS n s σ) : Fine n (i + 1) (stp s σ) := by
  unfold Purse.stp
  by_cases h0 : s = 0
  · rw [if_pos h0]
    have hn := hs.2.2 h0
    refine ⟨by show _ + 1 ≤ _; omega, fun k hk => ?_, by simp [h.len], by show σ.taken.length ≤ i + 1; have := h.tak; omega, h.rng⟩
    rcases List.mem_append.1 hk with g | g
    · have := h.low k g
      show k < σ.next + 1
      omega
    · rw [List.mem_singleton.1 g]; show σ.next < σ.next + 1; omega
  · rw [if_neg h0]
    have ht := h.tak
    have hone : ∀ x : Int, -1 ≤ x → x < n → ∀ y ∈ σ.taken ++ [x], -1 ≤ y ∧ y < n := fun x h1 h2 y hy => by
      rcases List.mem_append.1 hy with g | g
      · exact h.rng y g
      · rw [List.mem_singleton.1 g]; exact ⟨h1, h2⟩
    by_cases h1 : s = 1
    · rw [if_pos h1]
      cases hl : σ.left.getLast? with
      | none => exact ⟨h.next, fun k hk => by simp at hk, Nat.zero_le _, by simp; omega, hone (-1) (by omega) (by omega)⟩
      | some j =>
        have hj := List.mem_of_getLast? hl
        have hjl := h.low j hj
        have hjn := h.next
        exact ⟨h.next, fun k hk => h.low k ((List.dropLast_sublist _).subset hk), by simp; have := h.len; omega, by simp; omega, hone j (by omega) (by omega)⟩
    · rw [if_neg h1]
      cases hl : σ.left with
      | nil => exact ⟨h.next, fun k hk => by simp at hk, Nat.zero_le _, by simp; omega, hone (-1) (by omega) (by omega)⟩
      | cons j t =>
        have hjl := h.low j (by rw [hl]; exact .head _)
        have hjn := h.next
        have hlen := h.len
        rw [hl] at hlen
        exact ⟨h.next, fun k hk => h.low k (by rw [hl]; exact .tail _ hk), by simp at hlen ⊢; omega, by simp; omega, hone j (by omega) (by omega)⟩
def AllOk (n : Nat) (steps : List Int) (i : Nat) : Prop := ∀ j, j < i → okS n (steps.getD j 0) (runS steps j)
theorem fine (n : Nat) (steps : List Int) : ∀ i, i ≤ steps.length → AllOk n steps i → Fine n i (runS steps i)
  | 0, _, _ => ⟨Nat.zero_le _, fun k hk => by simp [runS] at hk, Nat.zero_le _, Nat.zero_le _, fun x hx => by simp [runS] at hx⟩
  | i + 1, h, hok => by
    rw [runS_succ steps i (by omega)]
    exact (fine n steps i (by omega) (fun j hj => hok j (by omega))).stp (hok i (by omega))

def coinB (x : S28) : Bool := decide (1 ≤ x.f0 ∧ x.f0 ≤ 1000000 ∧ 0 ≤ x.f1 ∧ x.f1 ≤ 10000)
theorem w64s {x : Int} (h1 : -9223372036854775808 ≤ x) (h2 : x ≤ 9223372036854775807) : wrap64 x = x := by unfold wrap64; omega
theorem coins_l0 (l : List S28) (hl : l.length ≤ 2147483647) : ∀ (n i : Nat), l.length - i = n → i ≤ l.length → Ev (fun k => laws_areCoins.l0 k 1 l l (l.length : Int) (i : Int) 0 0 0 0) ((l.drop i).all coinB && decide (l.length ≤ 10)) := by
  intro n
  induction n with
  | zero =>
    intro i hn hi
    have hd : l.drop i = [] := List.drop_eq_nil_of_le (by omega)
    rw [hd]
    refine Ev.step (f := fun _ => some _) (fun k => ?_) (Ev.now _)
    simp only [laws_areCoins.l0]
    rw [if_neg (by omega)]
    by_cases h10 : (l.length : Int) ≤ 10
    · rw [if_pos h10, if_pos (by omega), if_pos (by omega), if_pos (by omega), if_pos (by omega), if_pos (by omega), if_pos (by omega), if_pos (by omega)]
      simp
      omega
    · rw [if_neg h10]
      simp
      omega
  | succ n ih =>
    intro i hn hi
    have hlt : i < l.length := by omega
    have h := ih (i + 1) (by omega) (by omega)
    have hr : rd_T28 l (i : Int) = l[i] := by simp [rd_T28, List.getD_eq_getElem?_getD, List.getElem?_eq_getElem hlt]
    rw [List.drop_eq_getElem_cons hlt, List.all_cons]
    generalize hx : l[i] = x at hr
    by_cases hg : coinB x = true
    · rw [hg, Bool.true_and]
      have hg' := of_decide_eq_true hg
      refine Ev.step (fun k => ?_) h
      simp only [laws_areCoins.l0]
      rw [if_pos (by omega), if_pos (by omega), if_pos (by omega), hr, if_neg (by omega), if_neg (by omega), if_neg (by omega), if_neg (by omega), w64s (by omega) (by omega)]
      rfl
    · have hg2 : coinB x = false := by simpa using hg
      have hg' := of_decide_eq_false hg2
      rw [hg2, Bool.false_and, Bool.false_and]
      refine Ev.step (f := fun _ => some _) (fun k => ?_) (Ev.now _)
      simp only [laws_areCoins.l0]
      rw [if_pos (by omega), if_pos (by omega), if_pos (by omega), hr]
      by_cases c1 : x.f0 < 1
      · rw [if_pos c1]
      · rw [if_neg c1]
        by_cases c2 : x.f0 > 1000000
        · rw [if_pos c2]
        · rw [if_neg c2]
          by_cases c3 : x.f1 < 0
          · rw [if_pos c3]
          · rw [if_neg c3, if_pos (by omega)]
def coinsB (l : List S28) : Bool := l.all coinB && decide (l.length ≤ 10)
theorem coins_f (l : List S28) (hl : l.length ≤ 2147483647) : ∃ k, laws_areCoins.f k 0 0 0 0 1 l = some (coinsB l) := by
  obtain ⟨k, hk⟩ := (coins_l0 l hl l.length 0 rfl (by omega)).rounds
  exact ⟨k, by rw [List.drop_zero] at hk; exact hk⟩
theorem far_calls (v m : Int) (h1 : -m ≤ v) (h2 : v ≤ m) (h3 : 0 ≤ m) (h4 : m ≤ 1000000) (w : World) : Calls Try.prog 11 #[.int .i64 v, .int .i64 m] w fun e w' => e = .returned (.bool false) ∧ Below w.heap.size w w' :=
  (impl_far.calls v m false w (by unfold impl_far.f; rw [w64s (by omega) (by omega), if_neg (by omega)]; simp; omega)).mono fun e w' ⟨a, b⟩ => ⟨a, b.below⟩

/-- A coin of the list, with its place. -/
def cnAt (l : List S28) (j : Nat) : Cn := ((l.getD j z28).f0, (l.getD j z28).f1, (j : Int))
theorem cn_fit {l : List S28} (h : coinsB l = true) (j : Nat) (hj : j < l.length) : fitC (cnAt l j) := by
  unfold coinsB at h
  rw [Bool.and_eq_true] at h
  have h1 := of_decide_eq_true (List.all_eq_true.1 h.1 _ (List.getElem_mem hj))
  unfold fitC cnAt
  rw [List.getD_eq_getElem?_getD, List.getElem?_eq_getElem hj]
  simp only [Option.getD_some]
  omega
theorem R_frame {w w' : World} {base : Nat} {ok : Nat → Prop} {v : Value} {xs : List Int} (h : (Kd.int .i64).R 3 w base ok v xs) (hk : ∀ g, v.ownBlock = some g → w'.heap[g]? = w.heap[g]?) : (Kd.int .i64).R 3 w' base ok v xs := by
  have ho := Kd.own_of_R h
  refine Kd.R_of_own (enc := Value.int .i64) (h1 := fun _ => rfl) (xs := xs) ⟨ho.1, ?_⟩ h.1
  rcases ho.2 with hn | ⟨g, cap, cur, e1, h2, h3, h4, h5, h6, h7⟩
  · exact .inl hn
  · refine .inr ⟨g, cap, cur, e1, h2, (hk g (by rw [e1]; rfl)).trans h3, h4, h5, h6, h7⟩
end Go.Proofs.Ytkmcoaidlnaliaa.Purse
