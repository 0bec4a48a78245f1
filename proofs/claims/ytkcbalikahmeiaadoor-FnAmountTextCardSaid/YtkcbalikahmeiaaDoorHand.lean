/-
  Small words beside the printed ones, for the functions that are walked by hand: rows that are known whole, rows that are read.
-/
import Derived.Test.YtkcbalikahmeiaaDoorWMore
import Derived.Laws.CopyOwn
namespace Go.Proofs.YtkcbalikahmeiaaDoor.Hand
open Go.RowKit Go.Proofs.YtkcbalikahmeiaaDoorW.PrintWords Go.Proofs.YtkcbalikahmeiaaDoorW.PrintLast Go.Proofs.YtkcbalikahmeiaaDoorW.PrintMore

theorem own_block {w : World} {base n c g : Nat} {e : TypeId} {xs : List Value} (h : w.ownsRow base e 1 (.slice (some ⟨g, 0, none⟩) n c) n xs) :
    ∃ cur, w.heap[g]? = some (.cells cur e (0, 0)) ∧ cur.size = c ∧ cur.toList.take n = xs ∧ base ≤ g ∧ n ≤ c := by
  rcases h.2 with ⟨h1, _⟩ | ⟨g', cap, cur, h1, h2, h3, h4, _, h6, h7⟩
  · cases h1
  · injection h1 with a b c'
    injection a with a
    injection a with a
    subst a; subst c'
    exact ⟨cur, h3, by simpa using h6, by simpa using h7, h2, h4⟩

theorem own_full {w : World} {base n g : Nat} {e : TypeId} {xs : List Value} (h : w.ownsRow base e 1 (.slice (some ⟨g, 0, none⟩) n n) n xs) :
    w.heap[g]? = some (.cells xs.toArray e (0, 0)) ∧ xs.length = n ∧ base ≤ g := by
  obtain ⟨cur, h1, h2, h3, h4, _⟩ := own_block h
  have h5 : cur.toList = xs := by rw [← h3, List.take_of_length_le (by simp [h2])]
  have h6 : cur = xs.toArray := by rw [← h5]
  refine ⟨by rw [← h6]; exact h1, ?_, h4⟩
  rw [← h5]; simp [h2]

theorem C_of_block {w : World} {g : Nat} {e : TypeId} {k : IntKind} {fr : Nat × Nat} {xs : List Int} (h : w.heap[g]? = some (.cells (xs.map (Value.int k)).toArray e fr)) (hl : xs.length ≤ 9223372036854775807) :
    Kd.C (Kd.int k) w (some ⟨g, 0, none⟩) xs.length xs := by
  refine ⟨rfl, hl, fun _ => ⟨⟨g, 0, none⟩, rfl, fun j p hj => ⟨[.int k p], rfl, rfl, fun i u hu => ?_⟩⟩⟩
  match i, hu with
  | 0, hu =>
    simp only [List.getElem?_cons_zero, Option.some.injEq] at hu
    subst hu
    have e1 : (Kd.int k).sz = 1 := rfl
    rw [e1, add_plain, cell_of_row w g _ _ e fr h]
    simp [hj]

theorem C_cells {w : World} {A : Option Addr} {n : Nat} {k : IntKind} {xs : List Int} (h : Kd.C (Kd.int k) w A n xs) (hn : 0 < n) :
    ∃ ad, A = some ad ∧ ∀ j v, (xs.map (Value.int k))[j]? = some v → w.cell? (ad.add j) = some v := by
  obtain ⟨ad, e, hc⟩ := h.2.2 hn
  refine ⟨ad, e, fun j v hj => ?_⟩
  rw [List.getElem?_map] at hj
  obtain ⟨p, hp, rfl⟩ := Option.map_eq_some_iff.1 hj
  obtain ⟨c, c1, c2, c3⟩ := hc j p hp
  have c2' : c = [.int k p] := c2
  subst c2'
  have := c3 0 (.int k p) rfl
  have e1 : (Kd.int k).sz = 1 := rfl
  rw [e1, Nat.mul_one, Nat.add_zero] at this
  exact this

theorem ints_one (k : IntKind) (T : List Int) : ∀ v ∈ T.map (Value.int k), v.oneCell' = true := fun v hv => by
  obtain ⟨x, _, rfl⟩ := List.mem_map.1 hv
  rfl

theorem splice_zeros (k : IntKind) (m : Nat) (T : List Int) : splice (List.replicate (m + T.length) (Value.int k 0)) m (T.map (Value.int k)) = (List.replicate m 0 ++ T).map (Value.int k) := by
  unfold splice
  simp [List.take_replicate, List.drop_replicate]

theorem made_zeros (k : IntKind) (n : Nat) : (madeCells (Value.int k 0).cells (n * 1)).toList = List.replicate n (Value.int k 0) := by
  apply List.ext_getElem
  · simp [size_madeCells]
  · intro i h1 h2
    simp [madeCells, Value.cells, Nat.mod_one]

theorem grown_below {w w' : World} (h : w.grownBy w' none) : Below w.heap.size w w' := ⟨h.os, h.tape, h.output, h.size, fun k hk => h.block k hk (by simp)⟩
/-- Behind 'make': the new row known whole; what was owned is read still. -/
theorem made_facts {w wr w2 : World} {k : IntKind} {e n : Nat} {A : Option Addr} {c : Nat} {T : List Int} {ok : Nat → Prop} (hb : Below w.heap.size w wr) (hr : (Kd.int k).R e wr w.heap.size ok (.slice A T.length c) T)
    {e' : Nat} (hown : w2.ownsRow w.heap.size e' 1 (.slice (some ⟨wr.heap.size, 0, none⟩) n n) n (madeCells (Value.int k 0).cells (n * 1)).toList) (hg : wr.grownBy w2 none) :
    Aside0 (w2.heap[wr.heap.size]? = some (.cells (List.replicate n (Value.int k 0)).toArray e' (0, 0))) ∧ Aside0 (Below w.heap.size w w2) ∧ Aside0 ((Kd.int k).C w2 A T.length T) ∧ Aside0 (w.heap.size ≤ wr.heap.size) := by
  obtain ⟨b1, _, b2⟩ := own_full hown
  rw [made_zeros] at b1
  exact ⟨⟨b1⟩, ⟨hb.grown hg hb.size (fun _ h => by cases h)⟩, ⟨(Kd.R_reads' (Kd.R_below hr (grown_below hg))).2.2⟩, ⟨b2⟩⟩
end Go.Proofs.YtkcbalikahmeiaaDoor.Hand
