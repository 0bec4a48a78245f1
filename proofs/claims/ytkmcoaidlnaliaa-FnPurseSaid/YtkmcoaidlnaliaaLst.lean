/-
  A list of ints of one's own that may begin inside its block (cut at either end): appended to, cut, read.
-/
import Derived.Test.YtkmcoaidlnaliaaPurLoop
namespace Go.Proofs.Ytkmcoaidlnaliaa.Purse
open Go.RowKit Go.Proofs.Ytkmcoaidlnaliaa.Hand Go.Proofs.Ytkmcoaidlnaliaa.PFnPurse Go.Proofs.YtkmcoaidlnaliaaW.PrintWords Go.Proofs.YtkmcoaidlnaliaaW.PrintLast Go.Proofs.YtkmcoaidlnaliaaW.PrintMore

structure Lst (w : World) (g : Nat) (v : Value) (xs : List Int) : Prop where
  mk :: (out : ∃ off c, v = .slice (some ⟨g, off, none⟩) xs.length c ∧ g < w.heap.size ∧ xs.length ≤ c ∧ (∀ j, j < xs.length → w.cell? ⟨g, off + j, none⟩ = some (.int .i64 (xs.getD j 0))) ∧ (∀ j, j < c → (w.cell? ⟨g, off + j, none⟩).isSome = true ∧ w.frozen? ⟨g, off + j, none⟩ = false))
theorem Lst.shape {w : World} {g : Nat} {v : Value} {xs : List Int} (h : Lst w g v xs) : ∃ off c, v = .slice (some ⟨g, off, none⟩) xs.length c ∧ xs.length ≤ c ∧ ∀ j, j < xs.length → w.cell? ⟨g, off + j, none⟩ = some (.int .i64 (xs.getD j 0)) := by
  obtain ⟨off, c, e, _, hc, h4, _⟩ := h.out
  exact ⟨off, c, e, hc, h4⟩
theorem Lst.lt {w : World} {g : Nat} {v : Value} {xs : List Int} (h : Lst w g v xs) : g < w.heap.size := by
  obtain ⟨off, c, e, hc, h4, _⟩ := h.out
  exact hc
theorem Lst.frame {w w1 : World} {g : Nat} {v : Value} {xs : List Int} (h : Lst w g v xs) (hb : w1.heap[g]? = w.heap[g]?) : Lst w1 g v xs := by
  obtain ⟨off, c, e, h1, h2, h3, h4⟩ := h.out
  have hg : g < w1.heap.size := by
    rw [Array.getElem?_eq_getElem h1] at hb
    exact (Array.getElem?_eq_some_iff.1 hb).1
  have hcell : ∀ o, w1.cell? ⟨g, o, none⟩ = w.cell? ⟨g, o, none⟩ := fun o => by unfold World.cell?; simp only [hb]
  have hfroz : ∀ o, w1.frozen? ⟨g, o, none⟩ = w.frozen? ⟨g, o, none⟩ := fun o => by unfold World.frozen?; simp only [hb]
  exact ⟨⟨off, c, e, hg, h2, fun j hj => (hcell _).trans (h3 j hj), fun j hj => ⟨by rw [hcell]; exact (h4 j hj).1, (hfroz _).trans (h4 j hj).2⟩⟩⟩
theorem Lst.below {w w1 : World} {g : Nat} {v : Value} {xs : List Int} (h : Lst w g v xs) (hb : Below w.heap.size w w1) : Lst w1 g v xs := by
  obtain ⟨off, c, e, h1, h2, h3, h4⟩ := h.out
  exact ⟨⟨off, c, e, Nat.lt_of_lt_of_le h1 hb.size, h2, fun j hj => (hb.cell (p := ⟨g, off + j, none⟩) h1).trans (h3 j hj), fun j hj => ⟨by rw [hb.cell (p := ⟨g, off + j, none⟩) h1]; exact (h4 j hj).1, (hb.frozen (p := ⟨g, off + j, none⟩) h1).trans (h4 j hj).2⟩⟩⟩
theorem Lst.front {w : World} {g off n c : Nat} {xs : List Int} {y : Int} (h : Lst w g (.slice (some ⟨g, off, none⟩) n c) (xs ++ [y])) (m : Nat) (hm : m = xs.length) : Lst w g (.slice (some ⟨g, off, none⟩) m c) xs := by
  subst hm
  obtain ⟨off', c', e, h1, h2, h3, h4⟩ := h.out
  injection e with e1 e2 e3
  injection e1 with e1
  injection e1 with _ e1
  subst e1 e3
  rw [List.length_append] at h2 h3
  refine ⟨⟨off, c, rfl, h1, by omega, fun j hj => ?_, h4⟩⟩
  rw [h3 j (by omega), List.getD_eq_getElem?_getD, List.getD_eq_getElem?_getD, List.getElem?_append_left hj]
theorem Lst.tail {w : World} {g off n c : Nat} {xs : List Int} {y : Int} (h : Lst w g (.slice (some ⟨g, off, none⟩) n c) (y :: xs)) (m : Nat) (hm : m = xs.length) (v : Value) (hv : v = .slice (if c = 1 then some ⟨g, off, none⟩ else some ⟨g, off + 1, none⟩) m (c - 1)) : Lst w g v xs := by
  subst hm
  obtain ⟨off', c', e, h1, h2, h3, h4⟩ := h.out
  injection e with e1 e2 e3
  injection e1 with e1
  injection e1 with _ e1
  subst e1 e3
  rw [List.length_cons] at h2 h3
  by_cases hc : c = 1
  · rw [if_pos hc] at hv
    exact ⟨⟨off, c - 1, hv, h1, by omega, fun j hj => by omega, fun j hj => by omega⟩⟩
  · rw [if_neg hc] at hv
    refine ⟨⟨off + 1, c - 1, hv, h1, by omega, fun j hj => ?_, fun j hj => ?_⟩⟩
    · rw [show off + 1 + j = off + (j + 1) by omega, h3 (j + 1) (by omega)]
      simp
    · rw [show off + 1 + j = off + (j + 1) by omega]
      exact h4 (j + 1) (by omega)
theorem Lst.of_own {w : World} {base n : Nat} {v : Value} {xs : List Int} {e : TypeId} (hn : xs.length = n) (hp : 0 < n) (h : w.ownsRow base e 1 v n (xs.map (Value.int .i64))) : ∃ g, base ≤ g ∧ Lst w g v xs := by
  rcases h.2 with ⟨_, h0⟩ | ⟨g, cap, cur, e1, h2, h3, h4, _, h6, h7⟩
  · omega
  · subst e1
    have hsz : cur.size = cap := by simpa using h6
    refine ⟨g, h2, ⟨⟨0, cap, by rw [hn], (Array.getElem?_eq_some_iff.1 h3).1, by omega, fun j hj => ?_, fun j hj => ⟨?_, ?_⟩⟩⟩⟩
    · rw [Nat.zero_add]
      unfold World.cell?
      simp only [h3]
      have e2 : cur.toList.take n = xs.map (Value.int .i64) := by simpa using h7
      have e3 : (cur.toList.take n)[j]? = (xs.map (Value.int .i64))[j]? := by rw [e2]
      rw [List.getElem?_take_of_lt (by omega), List.getElem?_map, List.getElem?_eq_getElem hj, Array.getElem?_toList] at e3
      rw [e3, List.getD_eq_getElem?_getD, List.getElem?_eq_getElem hj]
      rfl
    · rw [Nat.zero_add]
      unfold World.cell?
      simp only [h3]
      rw [Array.getElem?_eq_getElem (by omega)]
      rfl
    · unfold World.frozen?
      rw [h3]
      simp
/-- A number more, out of a literal of one cell. -/
theorem wpList_lst_append {P : Program} {w0 W : World} {ops : Array Oper} {rest : List Oper} {o : Oper} {a : Act} {Q : Exit → Act → World → Prop} (base g : Nat)
    (hg : o.guard = none) (s x : Operand) (t e : TypeId) (hop : o.op = Op.call { callee := Callee.builtin Builtin.append, args := #[s, x], argTypes := #[t, t] })
    (ht : P.underlying t = some (.slice e)) (hinfo : (P.info? e).map (fun i => (i.zero, i.size, i.bytes)) = some (some (.int .i64 0), 1, 8))
    (v : Value) (xs : List Int) (y : Int) (hs : a.eval s = v) (hx : a.eval x = .slice (some ⟨W.heap.size, 0, none⟩) 1 1)
    (HO : Lst W g v xs) (hbg : base ≤ g) (HB : Below base w0 W) (hbase : base ≤ W.heap.size) (hl : xs.length + 1 ≤ 1000000)
    (h : ∀ v1 w1 g1, Lst w1 g1 v1 (xs ++ [y]) → (g1 = g ∨ W.heap.size ≤ g1) → (∀ k, k < W.heap.size → k ≠ g → w1.heap[k]? = W.heap[k]?) → Below base w0 w1 → W.heap.size ≤ w1.heap.size → wpList P ops Q rest (a.put o.dst v1) w1) :
    wpList P ops Q (o :: rest) a (W.alloc (.cells #[.int .i64 y] e)) := by
  have HA : Below W.heap.size W (W.alloc (.cells #[.int .i64 y] e)) := (Below.refl _ _).alloc (Nat.le_refl _) _
  have HN : (W.alloc (.cells #[.int .i64 y] e)).cell? ⟨W.heap.size, 0, none⟩ = some (.int .i64 y) := by
    have h : (W.alloc (.cells #[.int .i64 y] e)).heap[W.heap.size]? = some (.cells #[.int .i64 y] e (0, 0)) := by
      show (W.heap.push _)[W.heap.size]? = _
      simp
    unfold World.cell?
    simp only [h]
    rfl
  have HK : ∀ k, k < W.heap.size → (W.alloc (.cells #[.int .i64 y] e)).heap[k]? = W.heap[k]? := fun k hk => by
    show (W.heap.push _)[k]? = _
    rw [Array.getElem?_push_lt hk, Array.getElem?_eq_getElem hk]
  have HB1 : Below base w0 (W.alloc (.cells #[.int .i64 y] e)) := HB.alloc hbase _
  have HO1 := HO.below HA
  have hbase1 : base ≤ (W.alloc (.cells #[.int .i64 y] e)).heap.size := Nat.le_trans hbase HA.size
  have HAS := HA.size
  obtain ⟨off, c, ev, h2, h3, h4, h5⟩ := HO1.out
  generalize hW1 : W.alloc (.cells #[.int .i64 y] e) = W1 at HA HN HK HB1 HO1 hbase1 h2 h4 h5 HAS ⊢
  obtain ⟨i, hi, hz0, hz1, hz2⟩ := info_parts hinfo
  subst ev
  have hlt : xs.length + 1 ≤ maxLen := by unfold maxLen; omega
  refine wpList_append_arg W1 hg s x t hop e i (.int .i64 0) 1 8 ht hi hz0 hz1 hz2 rfl (by omega) g off xs.length c (xs.map (Value.int .i64)) hs (by simp) (fun j u hj => ?_) ⟨W.heap.size, 0, none⟩ 1 1 [.int .i64 y] hx rfl (fun j u hj => ?_) (fun u hu => ?_) (fun hr j hj => ?_) hlt (by omega) (fun hr => ?_) (fun hgr v1 w1 hown hgrow => ?_)
  · rw [List.getElem?_map] at hj
    obtain ⟨p, hp, rfl⟩ := Option.map_eq_some_iff.1 hj
    have := h4 j (List.getElem?_eq_some_iff.1 hp).1
    rw [List.getD_eq_getElem?_getD, hp] at this
    exact this
  · match j, hj with
    | 0, hj =>
      simp only [List.getElem?_cons_zero, Option.some.injEq] at hj
      subst hj
      exact HN
  · simp only [List.mem_singleton] at hu
    subst hu
    rfl
  · have e1 : xs.length * 1 + j < c := by simp at hj; omega
    rw [Nat.add_assoc]
    exact h5 _ e1
  · have e2 : W1.setCells g (off + xs.length * 1) [.int .i64 y] = W1.setCell ⟨g, off + xs.length, none⟩ (.int .i64 y) := by
      show W1.setCell ⟨g, off + xs.length * 1, none⟩ (.int .i64 y) = _
      rw [Nat.mul_one]
    rw [e2]
    refine h _ _ g ⟨⟨off, c, by rw [List.length_append]; rfl, by simpa [World.setCell] using h2, by rw [List.length_append]; exact hr, fun j hj => ?_, fun j hj => ⟨?_, ?_⟩⟩⟩ (.inl rfl) (fun k hk hkg => ?_) (HB1.setCell hbg _) (by simpa [World.setCell] using HAS)
    · by_cases hji : j = xs.length
      · subst hji
        rw [World.cell?_setCell_same' _ _ _ (h5 _ (by omega)).1]
        simp [List.getD_eq_getElem?_getD]
      · rw [List.length_append, List.length_singleton] at hj
        rw [World.cell?_setCell_other _ _ _ _ (fun e => by injection e; omega), h4 j (by omega)]
        simp only [List.getD_eq_getElem?_getD]
        rw [List.getElem?_append_left (by omega)]
    · by_cases hji : j = xs.length
      · subst hji
        rw [World.cell?_setCell_same' _ _ _ (h5 _ hj).1]
        rfl
      · rw [World.cell?_setCell_other _ _ _ _ (fun e => by injection e; omega)]
        exact (h5 j hj).1
    · rw [World.frozen?_setCell]
      exact (h5 j hj).2
    · rw [← HK k hk]
      simp [World.setCell, Array.getElem?_modify, Ne.symm hkg]
  · rw [← List.map_singleton, ← List.map_append] at hown
    obtain ⟨g1, k1, k2⟩ := Lst.of_own (e := e) (n := xs.length + 1) (xs := xs ++ [y]) (by simp) (by omega) hown
    exact h _ _ g1 k2 (.inr (Nat.le_trans HAS k1)) (fun k hk hkg => by rw [hgrow.block k (Nat.lt_of_lt_of_le hk HAS) (by simp)]; exact HK k hk) (HB1.grown hgrow hbase1 (fun _ h => by cases h)) (Nat.le_trans HAS hgrow.size)
end Go.Proofs.Ytkmcoaidlnaliaa.Purse
