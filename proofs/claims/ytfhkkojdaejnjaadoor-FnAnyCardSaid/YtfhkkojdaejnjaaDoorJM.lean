/-
  slices.Sort at uint64.
  slices.Sort at uint64: the row sorted, the world else as it was but for draws and new blocks.
  slices.Sort on a row of numbers of one's own; the values' order is the sorted list.
-/
import Derived.Test.YtfhkkojdaejnjaaDoorJFL
import Derived.Test.YtfhkkojdaejnjaaDoorJL
import Derived.Sort.WalkA14
import Derived.Test.YtfhkkojdaejnjaaDoorJFA
import Derived.Test.YtfhkkojdaejnjaaDoorJG
import Derived.Test.YtfhkkojdaejnjaaDoorJH
import Derived.Test.YtfhkkojdaejnjaaDoorJI
import Derived.Test.YtfhkkojdaejnjaaDoorJK
import Derived.Sort.AssemblyPlain
import Derived.Test.YtfhkkojdaejnjaaDoorJB
import Derived.Test.YtfhkkojdaejnjaaDoorJA
set_option linter.unusedVariables false
namespace Go.Proofs.YtfhkkojdaejnjaaDoor.Srtu
open Go.RowKit Go.Sort Go.Proofs
def pdqWalk_u : Prop := ∀ (blk off cap a b limit : Nat) (d : Array Int) (w : World), Holds (Value.int .u64) w blk off d → blk < w.heap.size → a ≤ b → b ≤ d.size → d.size < 4611686018427387904 → limit < 4611686018427387904 → Below ltInt a b d →
  Calls Tryd.prog 50 #[.slice (some ⟨blk, off, none⟩) d.size cap, .int .i64 a, .int .i64 b, .int .i64 limit] w fun e w' =>
    e = .returned (.tuple #[]) ∧ ∃ n os, w' = grow (putRow (Value.int .u64) (Sort.ahead w n) blk off (Sort.pdq ltInt d a b limit true true)) os
set_option maxRecDepth 100000 in
theorem Sort_u (hpdq : pdqWalk_u) (blk off cap : Nat) (d : Array Int) (w : World) (hH : Holds (Value.int .u64) w blk off d) (hblk : blk < w.heap.size) (hsz : d.size < 4611686018427387904) :
    Calls Tryd.prog 36 #[.slice (some ⟨blk, off, none⟩) d.size cap] w fun e w' => e = .returned (.tuple #[]) ∧ ∃ n os, w' = grow (putRow (Value.int .u64) (Sort.ahead w n) blk off (Sort.sort ltInt d)) os := by
  have HH : Hid (Holds (Value.int .u64) w blk off d) := hH
  clear hH
  have hLen : ∀ w, Calls Tryd.prog 51 #[.int .u64 (d.size : Int)] w fun e w' => e = .returned (.int .i64 (bitsLen d.size : Nat)) ∧ w' = w := fun w => by
    have h := bits_Len_u (d.size : Int) w (by omega) (by omega)
    rwa [Int.toNat_natCast, bitLen_eq _ (by omega)] at h
  have hk : bitsLen d.size ≤ 62 := (bitsLen_le_iff d.size 62).2 (by omega)
  go_enter Tryd.func36, Tryd.ntmps36
  go_wp2_with (first
    | (go_at_call 51; refine (hLen _).mono ?_; rintro e w' ⟨rfl, rfl⟩)
    | (go_at_call 50; refine (hpdq blk off cap 0 d.size (bitsLen d.size) d _ (by exact HH.out) (by exact hblk) (Nat.zero_le _) (Nat.le_refl _) hsz (by omega) (Or.inl rfl)).mono ?_; rintro e w' ⟨rfl, n, os, rfl⟩))
  go_end0
  exact ⟨rfl, n, os, rfl⟩

end Go.Proofs.YtfhkkojdaejnjaaDoor.Srtu
namespace Go.Proofs.YtfhkkojdaejnjaaDoor.Srtu
open Go.RowKit Go.Sort Go.Proofs
theorem callees13u : Callees13u where
  ins := insertionSort_u
  brk := breakPatterns_u
  piv := choosePivot_u
  par := partialInsertionSort_u
  peq := partitionEqualOrdered_u
  prt := partitionOrdered_u
theorem plain13u : Plain13 where
  swo := swo_ltInt
  ins := insertionSort_holds
  par := partialInsertionSort_holds
  prt := partition_holds _
  peq := partitionEqual_holds _
  pdq := pdq_sorts _
theorem pdqWalkU : pdqWalk_u := fun blk off cap a b limit d w hH hb hab hbd hsz hl hB =>
  pdqsort_u callees13u plain13u (b - a + 1) blk off cap a b limit d w (by omega) hH hb hab hbd hsz hl hB
theorem slices_Sort_u (blk off cap : Nat) (zs : List Int) (w : World) (hH : Holds (Value.int .u64) w blk off zs.toArray) (hblk : blk < w.heap.size) (hsz : zs.length < 4611686018427387904) :
    Calls Tryd.prog 36 #[.slice (some ⟨blk, off, none⟩) zs.length cap] w fun e w' =>
      e = .returned (.tuple #[]) ∧ ∃ n os, w' = grow (putRow (Value.int .u64) (Sort.ahead w n) blk off (zs.mergeSort fun x y => decide (x ≤ y)).toArray) os := by
  have h := Sort_u pdqWalkU blk off cap zs.toArray w hH hblk (by simpa using hsz)
  rw [show Sort.sort ltInt zs.toArray = (zs.mergeSort fun x y => decide (x ≤ y)).toArray by rw [← sortInt zs]] at h
  simpa using h
end Go.Proofs.YtfhkkojdaejnjaaDoor.Srtu
namespace Go.Proofs.YtfhkkojdaejnjaaDoor.Gcs
open Go.RowKit Go.Proofs.YtfhkkojdaejnjaaDoor.Hand Go.Proofs.YtfhkkojdaejnjaaDoor.PFnForms Go.Proofs.YtfhkkojdaejnjaaDoorW.PrintWords Go.Proofs.YtfhkkojdaejnjaaDoorW.PrintLast Go.Proofs.YtfhkkojdaejnjaaDoorW.PrintMore

/-- The list in order. -/
def srtI (l : List Int) : List Int := l.mergeSort fun x y => decide (x ≤ y)
theorem srtI_length (l : List Int) : (srtI l).length = l.length := (List.mergeSort_perm l _).length_eq
theorem srtI_perm (l : List Int) : (srtI l).Perm l := List.mergeSort_perm l _
theorem srtI_srt (l : List Int) : Srt (srtI l) := by
  have h := List.pairwise_mergeSort (le := fun x y : Int => decide (x ≤ y)) (fun a b c h1 h2 => by simp at *; omega) (fun a b => by simp; omega) l
  exact h.imp (fun h => of_decide_eq_true h)
theorem srt_unique {l m : List Int} (h : l.Perm m) (h1 : Srt l) (h2 : Srt m) : l = m := h.eq_of_pairwise (fun _ _ _ _ a b => Int.le_antisymm a b) h1 h2
theorem insI_perm (l : List Int) (v : Int) : (insI l v).Perm (l ++ [v]) := by
  unfold insI curI
  generalize posI l v l.length = k
  have h1 : (l.take k ++ v :: l.drop k).Perm (v :: (l.take k ++ l.drop k)) := List.perm_middle
  rw [List.take_append_drop] at h1
  exact h1.trans (List.perm_append_singleton v l).symm
theorem valsI_perm (ks : List Int) (f : Int) : ∀ (bs : List (List Int)) (acc : List Int), (bs.foldl (fun l b => insI l (valI ks f b)) acc).Perm (acc ++ bs.map (valI ks f))
  | [], acc => by simp
  | b :: t, acc => by
    rw [List.foldl_cons, List.map_cons]
    refine (valsI_perm ks f t _).trans ?_
    have h := (insI_perm acc (valI ks f b)).append_right (t.map (valI ks f))
    rw [List.append_assoc] at h
    exact h
theorem valsI_eq (ks : List Int) (f : Int) (hf : 0 < f) (bs : List (List Int)) : valsI ks f bs = srtI (bs.map (valI ks f)) := by
  refine srt_unique ?_ (valsI_facts ks f hf bs).1 (srtI_srt _)
  have h := valsI_perm ks f bs []
  rw [List.nil_append] at h
  exact h.trans (srtI_perm _).symm

open Go.Sort in
theorem grown_sorted {w : World} {g n : Nat} {os : Array Obj} (d : Array Int) : w.grownBy (grow (putRow (Value.int .u64) (Sort.ahead w n) g 0 d) os) (some g) := by
  refine ⟨rfl, rfl, rfl, by simp, fun k hk hne => ?_⟩
  rw [heap_grow_old _ _ (by simpa using hk)]
  have : g ≠ k := fun e => hne (by rw [e])
  simp [putRow, mapBlock, Sort.ahead, Array.getElem?_modify, this]
def IsSorted (base : Nat) (w : World) (v : Value) (xs : List Int) (e : Ending) (w' : World) : Prop := e = .returned (.tuple #[]) ∧ Bw base w' v (srtI xs) ∧ (∀ w0, Below base w0 w → Below base w0 w') ∧ w.grownBy w' v.ownBlock
open Go.Sort in
theorem sort_calls (base : Nat) (v : Value) (xs : List Int) (w : World) (h : Bw base w v xs) (hb : base ≤ w.heap.size) (hl : xs.length ≤ 1000000) : Calls Tryd.prog 36 #[v] w (IsSorted base w v xs) := by
  obtain ⟨g, c, rfl, h1, h2, h3, h4, h5⟩ := h.out
  have hH : Holds (Value.int .u64) w g 0 xs.toArray := fun j hj => by
    have hj' : j < xs.length := by simpa using hj
    rw [Nat.zero_add]
    refine ⟨?_, (h5 j (by omega)).2⟩
    rw [h4 j hj', List.getD_eq_getElem?_getD, List.getElem?_eq_getElem hj']
    simp [hj']
  refine (Srtu.slices_Sort_u g 0 c xs w hH h2 (by omega)).mono ?_
  rintro e w' ⟨rfl, n, os, rfl⟩
  have hsz : (srtI xs).toArray.size = xs.toArray.size := by simp [srtI_length]
  have hP : Holds (Value.int .u64) (grow (putRow (Value.int .u64) (Sort.ahead w n) g 0 (srtI xs).toArray) os) g 0 (srtI xs).toArray :=
    holds_grow _ _ _ _ _ _ (by simpa using h2) (holds_putRow _ _ _ _ xs.toArray _ hH hsz)
  refine ⟨rfl, ⟨⟨g, c, by rw [srtI_length], h1, by simp; omega, by rw [srtI_length]; exact h3, fun j hj => ?_, fun j hj => ?_⟩⟩, fun w0 hw => hw.grown (grown_sorted _) hb (fun k e => by injection e with e; omega), grown_sorted _⟩
  · have := (hP j (by simpa using hj)).1
    rw [Nat.zero_add] at this
    refine this.trans ?_
    rw [List.getD_eq_getElem?_getD, List.getElem?_eq_getElem hj]
    simp [hj]
  · by_cases hjl : j < xs.length
    · have := hP j (by simp [srtI_length, hjl])
      rw [Nat.zero_add] at this
      exact ⟨(congrArg Option.isSome this.1).trans rfl, this.2⟩
    · have e1 : (grow (putRow (Value.int .u64) (Sort.ahead w n) g 0 (srtI xs).toArray) os).cell? ⟨g, j, none⟩ = w.cell? ⟨g, j, none⟩ := by
        rw [cell?_grow _ _ _ (by simpa using h2), cell?_putRow_other _ _ _ _ _ _ (Or.inr (Or.inr (by simp [srtI_length]; omega)))]
        rfl
      have e2 : (grow (putRow (Value.int .u64) (Sort.ahead w n) g 0 (srtI xs).toArray) os).frozen? ⟨g, j, none⟩ = w.frozen? ⟨g, j, none⟩ := by
        rw [frozen?_grow _ _ _ (by simpa using h2), frozen?_putRow]
        rfl
      exact ⟨(congrArg Option.isSome e1).trans (h5 j hj).1, e2.trans (h5 j hj).2⟩

theorem Bw.lt {base : Nat} {w : World} {g n c : Nat} {xs : List Int} (h : Bw base w (.slice (some ⟨g, 0, none⟩) n c) xs) : g < w.heap.size := by
  obtain ⟨g', c', e, _, h2, _⟩ := h.out
  injection e with e1
  injection e1 with e1
  injection e1 with e1
  rw [e1]; exact h2
theorem Bw.of_own0 {w : World} {base n g : Nat} {e : TypeId} (h : w.ownsRow base e 1 (.slice (some ⟨g, 0, none⟩) 0 n) 0 []) (hb : base ≤ g) : Bw base w (.slice (some ⟨g, 0, none⟩) 0 n) [] := by
  obtain ⟨cur, h1, h2, _, _, _⟩ := own_block h
  refine ⟨⟨g, n, rfl, hb, (Array.getElem?_eq_some_iff.1 h1).1, Nat.zero_le _, (fun j hj => absurd hj (Nat.not_lt_zero _)), fun j hj => ⟨?_, ?_⟩⟩⟩
  · unfold World.cell?
    simp only [h1]
    rw [Array.getElem?_eq_getElem (by omega)]
    rfl
  · unfold World.frozen?
    simp only [h1]
    simp
/-- A number more where there is room: nothing but the row turns. -/
theorem wpList_bw_room {P : Program} {w0 W : World} {ops : Array Oper} {rest : List Oper} {o : Oper} {a : Act} {Q : Exit → Act → World → Prop} (base : Nat)
    (hg : o.guard = none) (s x : Operand) (t e : TypeId) (hop : o.op = Op.call { callee := Callee.builtin Builtin.append, args := #[s, x], argTypes := #[t, t] })
    (ht : P.underlying t = some (.slice e)) (hinfo : (P.info? e).map (fun i => (i.zero, i.size, i.bytes)) = some (some (.int .u64 0), 1, 8))
    (g n c : Nat) (xs : List Int) (y : Int) (hs : a.eval s = .slice (some ⟨g, 0, none⟩) n c) (hx : a.eval x = .slice (some ⟨W.heap.size, 0, none⟩) 1 1)
    (HO : Bw base W (.slice (some ⟨g, 0, none⟩) n c) xs) (hn : xs.length = n) (HB : Below base w0 W) (hbase : base ≤ W.heap.size) (hroom : n + 1 ≤ c) (hl : n + 1 ≤ 1000000)
    (h : ∀ w1, Bw base w1 (.slice (some ⟨g, 0, none⟩) (n + 1) c) (xs ++ [y]) → Below base w0 w1 → W.grownBy w1 (some g) → wpList P ops Q rest (a.put o.dst (.slice (some ⟨g, 0, none⟩) (n + 1) c)) w1) :
    wpList P ops Q (o :: rest) a (W.alloc (.cells #[.int .u64 y] e)) := by
  have HA : Below W.heap.size W (W.alloc (.cells #[.int .u64 y] e)) := (Below.refl _ _).alloc (Nat.le_refl _) _
  have HN : (W.alloc (.cells #[.int .u64 y] e)).cell? ⟨W.heap.size, 0, none⟩ = some (.int .u64 y) := by
    have h : (W.alloc (.cells #[.int .u64 y] e)).heap[W.heap.size]? = some (.cells #[.int .u64 y] e (0, 0)) := by
      show (W.heap.push _)[W.heap.size]? = _
      simp
    unfold World.cell?
    simp only [h]
    rfl
  have HB1 : Below base w0 (W.alloc (.cells #[.int .u64 y] e)) := HB.alloc hbase _
  have HO1 := HO.below HA
  have hbase1 : base ≤ (W.alloc (.cells #[.int .u64 y] e)).heap.size := Nat.le_trans hbase HA.size
  obtain ⟨g', c', ev, h1, h2, h3, h4, h5⟩ := HO1.out
  injection ev with e1 e2 e3
  injection e1 with e1
  injection e1 with e1
  subst e1 e2 e3
  clear hn
  have hW1s : W.heap.size ≤ (W.alloc (.cells #[.int .u64 y] e)).heap.size := HA.size
  generalize hW1 : W.alloc (.cells #[.int .u64 y] e) = W1 at HA HN HB1 HO1 hbase1 h2 h4 h5 hW1s ⊢
  obtain ⟨i, hi, hz0, hz1, hz2⟩ := info_parts hinfo
  have hlt : xs.length + 1 ≤ maxLen := by unfold maxLen; omega
  refine wpList_append_arg W1 hg s x t hop e i (.int .u64 0) 1 8 ht hi hz0 hz1 hz2 rfl (by omega) g 0 xs.length c (xs.map (Value.int .u64)) hs (by simp) (fun j u hj => ?_) ⟨W.heap.size, 0, none⟩ 1 1 [.int .u64 y] hx rfl (fun j u hj => ?_) (fun u hu => ?_) (fun hr j hj => ?_) hlt (by omega) (fun hr => ?_) (fun hgr v1 w1 hown hgrow => ?_)
  · rw [List.getElem?_map] at hj
    obtain ⟨p, hp, rfl⟩ := Option.map_eq_some_iff.1 hj
    rw [Nat.zero_add]
    have := h4 j (List.getElem?_eq_some_iff.1 hp).1
    rw [List.getD_eq_getElem?_getD, hp] at this
    exact this
  · match j, hj with
    | 0, hj =>
      simp only [List.getElem?_cons_zero, Option.some.injEq] at hj
      subst hj
      exact HN
  · simp only [List.mem_singleton] at hu
    subst hu
    rfl
  · have e1 : 0 + xs.length * 1 + j < c := by simp at hj; omega
    exact h5 _ e1
  · have e2 : W1.setCells g (0 + xs.length * 1) [.int .u64 y] = W1.setCell ⟨g, xs.length, none⟩ (.int .u64 y) := by
      show W1.setCell ⟨g, 0 + xs.length * 1, none⟩ (.int .u64 y) = _
      rw [Nat.zero_add, Nat.mul_one]
    rw [e2]
    refine h _ ⟨⟨g, c, by rw [List.length_append]; rfl, h1, by simpa [World.setCell] using h2, by rw [List.length_append]; exact hr, fun j hj => ?_, fun j hj => ⟨?_, ?_⟩⟩⟩ (HB1.setCell h1 _) ⟨HA.os, HA.tape, HA.output, by simpa [World.setCell] using hW1s, fun k hk hne => (Below.heap_setCell W1 ⟨g, xs.length, none⟩ _ k (fun e => hne (by rw [e]))).trans (HA.block k hk)⟩
    · by_cases hji : j = xs.length
      · subst hji
        rw [World.cell?_setCell_same' _ _ _ (h5 _ (by omega)).1]
        simp [List.getD_eq_getElem?_getD]
      · rw [List.length_append, List.length_singleton] at hj
        rw [World.cell?_setCell_other _ _ _ _ (fun e => by injection e; omega), h4 j (by omega)]
        simp only [List.getD_eq_getElem?_getD]
        rw [List.getElem?_append_left (by omega)]
    · by_cases hji : j = xs.length
      · subst hji
        rw [World.cell?_setCell_same' _ _ _ (h5 _ hj).1]
        rfl
      · rw [World.cell?_setCell_other _ _ _ _ (fun e => by injection e; omega)]
        exact (h5 j hj).1
    · rw [World.frozen?_setCell]
      exact (h5 j hj).2
  · exact absurd hroom (by omega)
end Go.Proofs.YtfhkkojdaejnjaaDoor.Gcs
