/-
  A row of bytes of one's own whose block may bear a conversion's mark (behind '[]byte(s)'): appended to, stored into, read.
-/
import Derived.Test.YtfhkkojdaejnjaaDoorHand
namespace Go.Proofs.YtfhkkojdaejnjaaDoor.Buf
open Go.RowKit Go.Proofs.YtfhkkojdaejnjaaDoor.Hand Go.Proofs.YtfhkkojdaejnjaaDoorW.PrintWords Go.Proofs.YtfhkkojdaejnjaaDoorW.PrintLast Go.Proofs.YtfhkkojdaejnjaaDoorW.PrintMore

structure Buf (base : Nat) (w : World) (v : Value) (xs : List Int) : Prop where
  mk :: (out : ∃ g c, v = .slice (some ⟨g, 0, none⟩) xs.length c ∧ base ≤ g ∧ g < w.heap.size ∧ xs.length ≤ c ∧ (∀ j, j < xs.length → w.cell? ⟨g, j, none⟩ = some (.int .u8 (xs.getD j 0))) ∧ (∀ j, j < c → (w.cell? ⟨g, j, none⟩).isSome = true ∧ w.frozen? ⟨g, j, none⟩ = false))

theorem cell_size {w : World} {g j : Nat} {v : Value} (h : w.cell? ⟨g, j, none⟩ = some v) : g < w.heap.size := World.block_lt_of_cell? w _ h
theorem Buf.shape {base : Nat} {w : World} {v : Value} {xs : List Int} (h : Buf base w v xs) : ∃ g c, v = .slice (some ⟨g, 0, none⟩) xs.length c ∧ xs.length ≤ c := by
  obtain ⟨g, c, e, _, _, hc, _⟩ := h.out
  exact ⟨g, c, e, hc⟩
theorem Buf.below {base : Nat} {w w1 : World} {v : Value} {xs : List Int} (h : Buf base w v xs) (hb : Below w.heap.size w w1) : Buf base w1 v xs := by
  obtain ⟨g, c, e, h1, h2, h3, h4, h5⟩ := h.out
  exact ⟨⟨g, c, e, h1, Nat.lt_of_lt_of_le h2 hb.size, h3, fun j hj => (hb.cell (p := ⟨g, j, none⟩) h2).trans (h4 j hj), fun j hj => ⟨by rw [hb.cell (p := ⟨g, j, none⟩) h2]; exact (h5 j hj).1, (hb.frozen (p := ⟨g, j, none⟩) h2).trans (h5 j hj).2⟩⟩⟩
theorem Buf.lower {base base' : Nat} {w : World} {v : Value} {xs : List Int} (h : Buf base w v xs) (hb : base' ≤ base) : Buf base' w v xs := by
  obtain ⟨g, c, e, h1, h2⟩ := h.out
  exact ⟨⟨g, c, e, by omega, h2⟩⟩
theorem Buf.reads {base : Nat} {w : World} {A : Option Addr} {n c : Nat} {xs : List Int} (h : Buf base w (.slice A n c) xs) (hl : xs.length ≤ 9223372036854775807) : n = xs.length ∧ n ≤ c ∧ Kd.C (Kd.int .u8) w A n xs := by
  obtain ⟨g, c', e, h1, h2, h3, h4, h5⟩ := h.out
  injection e with e1 e2 e3
  subst e1 e2 e3
  refine ⟨rfl, h3, rfl, hl, fun _ => ⟨⟨g, 0, none⟩, rfl, fun j p hj => ⟨[.int .u8 p], rfl, rfl, fun i u hu => ?_⟩⟩⟩
  match i, hu with
  | 0, hu =>
    simp only [List.getElem?_cons_zero, Option.some.injEq] at hu
    subst hu
    have e1 : (Kd.int .u8).sz = 1 := rfl
    have hlt := (List.getElem?_eq_some_iff.1 hj).1
    rw [e1, add_plain]
    have := h4 j hlt
    rw [List.getD_eq_getElem?_getD, hj] at this
    simpa using this
theorem Buf.of_conv (W : World) (e : TypeId) (s : ByteArray) {base : Nat} (hb : base ≤ W.heap.size) : Buf base (Lib.bytesWorld W e s) (.slice (some ⟨W.heap.size, 0, none⟩) s.size (grownCap W s.size 0 e)) (bytesOf s) := by
  have hge := grownCap_ge W s.size 0 e
  have hsz : (Lib.bytesCells W e s).size = grownCap W s.size 0 e := by
    have hd : s.data.size = s.size := rfl
    simp [Lib.bytesCells, hd]
    omega
  refine ⟨⟨W.heap.size, grownCap W s.size 0 e, by rw [bytesOf_length], hb, by rw [Lib.bytesWorld_size]; omega, by rw [bytesOf_length]; exact hge, fun j hj => ?_, fun j hj => ⟨?_, ?_⟩⟩⟩
  · rw [bytesOf_length] at hj
    rw [Lib.bytesWorld_cell W e s j hj]
    have h' : j < s.data.toList.length := by rw [data_length]; exact hj
    simp [bytesOf, List.getD_eq_getElem?_getD, List.getElem?_eq_getElem h']
  · have h := Lib.bytesWorld_at_new W e s
    unfold World.cell?
    simp only [h]
    rw [Array.getElem?_eq_getElem (by rw [hsz]; exact hj)]
    rfl
  · unfold World.frozen?
    rw [Lib.bytesWorld_at_new W e s]
    simp only [hsz, Bool.and_eq_false_iff, decide_eq_false_iff_not]
    left
    show ¬ grownCap W s.size 0 e ≤ j
    omega
theorem Buf.of_own {w : World} {base n : Nat} {v : Value} {xs : List Int} {e : TypeId} (hn : xs.length = n) (hp : 0 < n) (h : w.ownsRow base e 1 v n (xs.map (Value.int .u8))) : Buf base w v xs := by
  rcases h.2 with ⟨_, h0⟩ | ⟨g, cap, cur, e1, h2, h3, h4, _, h6, h7⟩
  · omega
  · subst e1
    have hsz : cur.size = cap := by simpa using h6
    refine ⟨⟨g, cap, by rw [hn], h2, (Array.getElem?_eq_some_iff.1 h3).1, by omega, fun j hj => ?_, fun j hj => ⟨?_, ?_⟩⟩⟩
    · unfold World.cell?
      simp only [h3]
      have e2 : cur.toList.take n = xs.map (Value.int .u8) := by simpa using h7
      have e3 : (cur.toList.take n)[j]? = (xs.map (Value.int .u8))[j]? := by rw [e2]
      rw [List.getElem?_take_of_lt (by omega), List.getElem?_map, List.getElem?_eq_getElem hj, Array.getElem?_toList] at e3
      rw [e3, List.getD_eq_getElem?_getD, List.getElem?_eq_getElem hj]
      rfl
    · unfold World.cell?
      simp only [h3]
      rw [Array.getElem?_eq_getElem (by omega)]
      rfl
    · unfold World.frozen?
      rw [h3]
      simp
theorem Buf.at_ {base : Nat} {w : World} {g n c : Nat} {xs : List Int} (h : Buf base w (.slice (some ⟨g, 0, none⟩) n c) xs) (j : Nat) (hj : j < xs.length) : w.cell? ⟨g, j, none⟩ = some (.int .u8 (xs.getD j 0)) ∧ w.frozen? ⟨g, j, none⟩ = false := by
  obtain ⟨g', c', e, h1, h2, h3, h4, h5⟩ := h.out
  injection e with e1 e2 e3
  injection e1 with e1
  injection e1 with e1
  subst e1 e2 e3
  exact ⟨h4 j hj, (h5 j (by omega)).2⟩
theorem Buf.store {base : Nat} {w : World} {g n c : Nat} {xs : List Int} (h : Buf base w (.slice (some ⟨g, 0, none⟩) n c) xs) (i : Nat) (hi : i < xs.length) (y : Int) :
    Buf base (w.setCell ⟨g, i, none⟩ (.int .u8 y)) (.slice (some ⟨g, 0, none⟩) n c) (xs.set i y) := by
  obtain ⟨g', c', e, h1, h2, h3, h4, h5⟩ := h.out
  injection e with e1 e2 e3
  injection e1 with e1
  injection e1 with e1
  subst e1 e2 e3
  refine ⟨⟨g, c, by rw [List.length_set], h1, by simpa [World.setCell] using h2, by rw [List.length_set]; exact h3, fun j hj => ?_, fun j hj => ⟨?_, ?_⟩⟩⟩
  · rw [List.length_set] at hj
    by_cases hji : j = i
    · subst hji
      rw [World.cell?_setCell_same' _ _ _ (h5 j (by omega)).1]
      simp [List.getD_eq_getElem?_getD, hj]
    · rw [World.cell?_setCell_other _ _ _ _ (fun e => by injection e; omega), h4 j hj]
      simp [List.getD_eq_getElem?_getD, Ne.symm hji]
  · by_cases hji : j = i
    · subst hji
      rw [World.cell?_setCell_same' _ _ _ (h5 j hj).1]
      rfl
    · rw [World.cell?_setCell_other _ _ _ _ (fun e => by injection e; omega)]
      exact (h5 j hj).1
  · rw [World.frozen?_setCell]
    exact (h5 j hj).2

/-- A byte more, out of a literal of one cell. -/
theorem wpList_buf_append {P : Program} {w0 W : World} {ops : Array Oper} {rest : List Oper} {o : Oper} {a : Act} {Q : Exit → Act → World → Prop} (base : Nat)
    (hg : o.guard = none) (s x : Operand) (t e : TypeId) (hop : o.op = Op.call { callee := Callee.builtin Builtin.append, args := #[s, x], argTypes := #[t, t] })
    (ht : P.underlying t = some (.slice e)) (hinfo : (P.info? e).map (fun i => (i.zero, i.size, i.bytes)) = some (some (.int .u8 0), 1, 1))
    (v : Value) (xs : List Int) (y : Int) (hs : a.eval s = v) (hx : a.eval x = .slice (some ⟨W.heap.size, 0, none⟩) 1 1)
    (HO : Buf base W v xs) (HB : Below base w0 W) (hbase : base ≤ W.heap.size) (hl : xs.length + 1 ≤ 1000000)
    (h : ∀ v1 w1, Buf base w1 v1 (xs ++ [y]) → Below base w0 w1 → wpList P ops Q rest (a.put o.dst v1) w1) :
    wpList P ops Q (o :: rest) a (W.alloc (.cells #[.int .u8 y] e)) := by
  have HA : Below W.heap.size W (W.alloc (.cells #[.int .u8 y] e)) := (Below.refl _ _).alloc (Nat.le_refl _) _
  have HN : (W.alloc (.cells #[.int .u8 y] e)).cell? ⟨W.heap.size, 0, none⟩ = some (.int .u8 y) := by
    have h : (W.alloc (.cells #[.int .u8 y] e)).heap[W.heap.size]? = some (.cells #[.int .u8 y] e (0, 0)) := by
      show (W.heap.push _)[W.heap.size]? = _
      simp
    unfold World.cell?
    simp only [h]
    rfl
  have HB1 : Below base w0 (W.alloc (.cells #[.int .u8 y] e)) := HB.alloc hbase _
  have HO1 := HO.below HA
  have hbase1 : base ≤ (W.alloc (.cells #[.int .u8 y] e)).heap.size := Nat.le_trans hbase HA.size
  obtain ⟨g, c, ev, h1, h2, h3, h4, h5⟩ := HO1.out
  generalize hW1 : W.alloc (.cells #[.int .u8 y] e) = W1 at HA HN HB1 HO1 hbase1 h2 h4 h5 ⊢
  obtain ⟨i, hi, hz0, hz1, hz2⟩ := info_parts hinfo
  subst ev
  have hlt : xs.length + 1 ≤ maxLen := by unfold maxLen; omega
  refine wpList_append_arg W1 hg s x t hop e i (.int .u8 0) 1 1 ht hi hz0 hz1 hz2 rfl (by omega) g 0 xs.length c (xs.map (Value.int .u8)) hs (by simp) (fun j u hj => ?_) ⟨W.heap.size, 0, none⟩ 1 1 [.int .u8 y] hx rfl (fun j u hj => ?_) (fun u hu => ?_) (fun hr j hj => ?_) hlt (by omega) (fun hr => ?_) (fun hgr v1 w1 hown hgrow => ?_)
  · rw [List.getElem?_map] at hj
    obtain ⟨p, hp, rfl⟩ := Option.map_eq_some_iff.1 hj
    rw [Nat.zero_add]
    have := h4 j (List.getElem?_eq_some_iff.1 hp).1
    rw [List.getD_eq_getElem?_getD, hp] at this
    exact this
  · match j, hj with
    | 0, hj =>
      simp only [List.getElem?_cons_zero, Option.some.injEq] at hj
      subst hj
      exact HN
  · simp only [List.mem_singleton] at hu
    subst hu
    rfl
  · have e1 : 0 + xs.length * 1 + j < c := by simp at hj; omega
    exact h5 _ e1
  · have e2 : W1.setCells g (0 + xs.length * 1) [.int .u8 y] = W1.setCell ⟨g, xs.length, none⟩ (.int .u8 y) := by
      show W1.setCell ⟨g, 0 + xs.length * 1, none⟩ (.int .u8 y) = _
      rw [Nat.zero_add, Nat.mul_one]
    rw [e2]
    refine h _ _ ⟨⟨g, c, by rw [List.length_append]; rfl, h1, by simpa [World.setCell] using h2, by rw [List.length_append]; exact hr, fun j hj => ?_, fun j hj => ⟨?_, ?_⟩⟩⟩ (HB1.setCell h1 _)
    · by_cases hji : j = xs.length
      · subst hji
        rw [World.cell?_setCell_same' _ _ _ (h5 _ (by omega)).1]
        simp [List.getD_eq_getElem?_getD]
      · rw [List.length_append, List.length_singleton] at hj
        rw [World.cell?_setCell_other _ _ _ _ (fun e => by injection e; omega), h4 j (by omega)]
        simp only [List.getD_eq_getElem?_getD]
        rw [List.getElem?_append_left (by omega)]
    · by_cases hji : j = xs.length
      · subst hji
        rw [World.cell?_setCell_same' _ _ _ (h5 _ hj).1]
        rfl
      · rw [World.cell?_setCell_other _ _ _ _ (fun e => by injection e; omega)]
        exact (h5 j hj).1
    · rw [World.frozen?_setCell]
      exact (h5 j hj).2
  · refine h _ _ ((Buf.of_own (e := e) (n := xs.length + 1) (xs := xs ++ [y]) (by simp) (by omega) ?_).lower hbase1) (HB1.grown hgrow hbase1 (fun _ h => by cases h))
    rw [List.map_append]
    exact hown
end Go.Proofs.YtfhkkojdaejnjaaDoor.Buf
