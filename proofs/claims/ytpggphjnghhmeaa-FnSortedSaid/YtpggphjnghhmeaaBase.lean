/-
  Rows of inputs, of outputs, of pointers to them; two neighbours of a row exchanged in place.
-/
import Derived.Test.YtpggphjnghhmeaaSrtPure
import Derived.Test.YtpggphjnghhmeaaHand
import Derived.Deep.MidRow
namespace Go.Proofs.Ytpggphjnghhmeaa.Srt
open Go.RowKit Go.Proofs.Ytpggphjnghhmeaa.Hand Go.Proofs.Ytpggphjnghhmeaa.PFnSorted Go.Proofs.YtpggphjnghhmeaaW.PrintWords Go.Proofs.YtpggphjnghhmeaaW.PrintLast Go.Proofs.YtpggphjnghhmeaaW.PrintMore

theorem blk_cell {w : World} {g : Nat} {cs : Array Value} {T : TypeId} {fr : Nat × Nat} (h : w.heap[g]? = some (.cells cs T fr)) (i : Nat) : w.cell? ⟨g, i, none⟩ = cs[i]? := by
  unfold World.cell?; simp [h]
theorem blk_frozen {w : World} {g : Nat} {cs : Array Value} {T : TypeId} (h : w.heap[g]? = some (.cells cs T (0, 0))) (i : Nat) : w.frozen? ⟨g, i, none⟩ = false := by
  unfold World.frozen?; simp only [h]; simp
theorem blk_lt {w : World} {g : Nat} {o : Obj} (h : w.heap[g]? = some o) : g < w.heap.size := (Array.getElem?_eq_some_iff.1 h).1
theorem blk_set {w : World} {g i : Nat} {cs : Array Value} {T : TypeId} {fr : Nat × Nat} {y : Value} (h : w.heap[g]? = some (.cells cs T fr)) : (w.setCell ⟨g, i, none⟩ y).heap[g]? = some (.cells (cs.setIfInBounds i y) T fr) := by
  simp [World.setCell, Array.getElem?_modify, h]

/-- An input's cells. -/
def cell40 (x : In40) : List Value := x.h.map (Value.int .u8) ++ [.int .u32 x.i]
theorem cell40_length {x : In40} (h : x.h.length = 32) : (cell40 x).length = 33 := by unfold cell40; simp [h]
theorem cell40_one (x : In40) : ∀ u ∈ cell40 x, u.oneCell' = true := by
  intro u hu
  unfold cell40 at hu
  rcases List.mem_append.1 hu with h | h
  · obtain ⟨z, _, rfl⟩ := List.mem_map.1 h; rfl
  · rw [List.mem_singleton.1 h]; rfl
/-- Inputs by value. -/
def kIn : Kd In40 where
  sz := 33
  E := []
  K := fun _ x cs => cs = cell40 x ∧ x.h.length = 32
  M := fun _ _ _ x cs => cs = cell40 x ∧ x.h.length = 32
  K_len := fun h => by rw [h.1, cell40_length h.2]
  K_one := fun h => by rw [h.1]; exact cell40_one _
  K_below := fun _ h => h
  K_of_M := fun h => h
  M_mono := fun _ h => h
  M_bound := fun h => h
  M_move := fun _ h => h
  M_lower := fun _ h => h
/-- Pointers to inputs. -/
def kPI : Kd In40 where
  sz := 1
  E := [53]
  K := fun w x cs => ∃ b, cs = [.pointer (some ⟨b, 0, none⟩)] ∧ x.h.length = 32 ∧ w.heap[b]? = some (.cells (cell40 x).toArray 53 (0, 0))
  M := fun w base ok x cs => ∃ b, cs = [.pointer (some ⟨b, 0, none⟩)] ∧ x.h.length = 32 ∧ w.heap[b]? = some (.cells (cell40 x).toArray 53 (0, 0)) ∧ ok b ∧ base ≤ b
  K_len := by rintro w x cs ⟨b, rfl, _⟩; rfl
  K_one := by rintro w x cs ⟨b, rfl, _⟩ u hu; rw [List.mem_singleton.1 hu]; rfl
  K_below := by rintro w w1 x cs hb ⟨b, rfl, h1, h2⟩; exact ⟨b, rfl, h1, (hb.block b (blk_lt h2)).trans h2⟩
  K_of_M := by rintro w base ok x cs ⟨b, rfl, h1, h2, _⟩; exact ⟨b, rfl, h1, h2⟩
  M_mono := by rintro w base ok ok' x cs hok ⟨b, rfl, h1, h2, h3, h4⟩; exact ⟨b, rfl, h1, h2, hok b h3, h4⟩
  M_bound := by rintro w base ok x cs ⟨b, rfl, h1, h2, h3, h4⟩; exact ⟨b, rfl, h1, h2, ⟨h3, h4, blk_lt h2, 53, by simp, _, h2⟩, h4⟩
  M_move := by rintro w w1 base ok x cs hm ⟨b, rfl, h1, h2, h3, h4⟩; exact ⟨b, rfl, h1, (hm b h3).trans h2, h3, h4⟩
  M_lower := by rintro w base base' ok x cs hb ⟨b, rfl, h1, h2, h3, h4⟩; exact ⟨b, rfl, h1, h2, h3, Nat.le_trans hb h4⟩
/-- Pointers to outputs. -/
def kPO : Kd S27 where
  sz := 1
  E := [56, 5]
  K := fun w x cs => ∃ b A c, cs = [.pointer (some ⟨b, 0, none⟩)] ∧ w.heap[b]? = some (.cells #[.int .i64 x.f0, .slice A x.f1.length c] 56 (0, 0)) ∧ x.f1.length ≤ c ∧ Kd.C (Kd.int .u8) w A x.f1.length x.f1
  M := fun w base ok x cs => ∃ b v, cs = [.pointer (some ⟨b, 0, none⟩)] ∧ w.heap[b]? = some (.cells #[.int .i64 x.f0, v] 56 (0, 0)) ∧ Kd.R (Kd.int .u8) 5 w base ok v x.f1 ∧ ok b ∧ base ≤ b
  K_len := by rintro w x cs ⟨b, A, c, rfl, _⟩; rfl
  K_one := by rintro w x cs ⟨b, A, c, rfl, _⟩ u hu; rw [List.mem_singleton.1 hu]; rfl
  K_below := by rintro w w1 x cs hb ⟨b, A, c, rfl, h1, h2, h3⟩; exact ⟨b, A, c, rfl, (hb.block b (blk_lt h1)).trans h1, h2, Kd.C_below h3 hb⟩
  K_of_M := by
    rintro w base ok x cs ⟨b, v, rfl, h1, h2, _⟩
    obtain ⟨A, c, rfl, hl, hr⟩ := Kd.R_reads h2
    exact ⟨b, A, c, rfl, h1, hl, hr⟩
  M_mono := by rintro w base ok ok' x cs hok ⟨b, v, rfl, h1, h2, h3, h4⟩; exact ⟨b, v, rfl, h1, Kd.R_mono h2 hok, hok b h3, h4⟩
  M_bound := by
    rintro w base ok x cs ⟨b, v, rfl, h1, h2, h3, h4⟩
    refine ⟨b, v, rfl, h1, Kd.R_mono (Kd.R_bound h2) ?_, ⟨h3, h4, blk_lt h1, 56, by simp, _, h1⟩, h4⟩
    rintro k ⟨q1, q2, q3, q, hq, hc⟩
    refine ⟨q1, q2, q3, q, ?_, hc⟩
    simp only [Kd.int, Kd.scalar, List.mem_singleton] at hq
    subst hq
    simp
  M_move := by rintro w w1 base ok x cs hm ⟨b, v, rfl, h1, h2, h3, h4⟩; exact ⟨b, v, rfl, (hm b h3).trans h1, Kd.R_move h2 hm, h3, h4⟩
  M_lower := by rintro w base base' ok x cs hb ⟨b, v, rfl, h1, h2, h3, h4⟩; exact ⟨b, v, rfl, h1, Kd.R_lower h2 hb, h3, Nat.le_trans hb h4⟩

/-! ### Neighbours, exchanged -/
theorem chunk_get {cs : List Value} {j s t : Nat} : ((cs.drop (j * s)).take s)[t]? = if t < s then cs[j * s + t]? else none := by
  rw [List.getElem?_take]
  split
  · rw [List.getElem?_drop]
  · rfl
theorem div_of {s j t : Nat} (h : t < s) : (j * s + t) / s = j := by
  rw [Nat.mul_comm, Nat.mul_add_div (by omega), Nat.div_eq_of_lt h, Nat.add_zero]
theorem R_form {α : Type} {d : Kd α} {e : Nat} {w : World} {base : Nat} {ok : Nat → Prop} {g n c : Nat} {ys : List α} (h : d.R e w base ok (.slice (some ⟨g, 0, none⟩) n c) ys) :
    ys.length = n ∧ base ≤ g ∧ ∃ cur, w.heap[g]? = some (.cells cur e (0, 0)) ∧ n ≤ c ∧ cur.size = c * d.sz ∧ Reps (d.M w base (fun k => ok k ∧ some k ≠ some g)) d.sz ys (cur.toList.take (n * d.sz)) := by
  obtain ⟨h0, inner, ho, hr⟩ := h
  obtain ⟨hl, ⟨hv, _⟩ | ⟨g', cap, cur, hv, hg, hh, hn, _, hs, rfl⟩⟩ := ho
  · cases hv
  · injection hv with e1 e2 e3
    injection e1 with e1
    injection e1 with e1
    subst e1; subst e3
    have e2' : ys.length = n := e2.symm
    rw [e2'] at hn hr
    exact ⟨e2', hg, cur, hh, hn, hs, hr⟩
theorem R_swapped {α : Type} [Inhabited α] {d : Kd α} {e : Nat} {w w2 : World} {base : Nat} {ok : Nat → Prop} {g n c : Nat} {ys : List α} (h : d.R e w base ok (.slice (some ⟨g, 0, none⟩) n c) ys) {i : Nat} (hi : i + 1 < n)
    {cur cur2 : Array Value} (h1 : w.heap[g]? = some (.cells cur e (0, 0))) (h2 : w2.heap[g]? = some (.cells cur2 e (0, 0))) (hk : ∀ k, k ≠ g → w2.heap[k]? = w.heap[k]?)
    (hsz : cur2.size = cur.size) (hget : ∀ p, cur2[p]? = if p / d.sz = i then cur[p + d.sz]? else if p / d.sz = i + 1 then cur[p - d.sz]? else cur[p]?) : d.R e w2 base ok (.slice (some ⟨g, 0, none⟩) n c) (sw ys i) := by
  have h0 := h.1
  obtain ⟨_, inner, ho, hr⟩ := h
  obtain ⟨hl, ⟨hv, _⟩ | ⟨g', cap, cur', hv, hg, hh, hn, hm, hz, rfl⟩⟩ := ho
  · cases hv
  injection hv with e1 e2 e3
  injection e1 with e1
  injection e1 with e1
  subst e1; subst e3
  obtain rfl : cur = cur' := by rw [h1] at hh; injection hh with hh; injection hh
  have e2' : ys.length = n := e2.symm
  rw [e2'] at hn hr hl
  have hcn : n * d.sz ≤ c * d.sz := Nat.mul_le_mul_right _ hn
  refine ⟨h0, cur2.toList.take (n * d.sz), ⟨?_, .inr ⟨g, c, cur2, ?_, hg, h2, ?_, hm, ?_, ?_⟩⟩, ?_, fun j p hj => ?_⟩
  · rw [sw_length, e2', List.length_take]; simp; omega
  · rw [sw_length, e2']
  · rw [sw_length, e2']; exact hn
  · rw [hsz]; exact hz
  · rw [sw_length, e2']
  · rw [sw_length, e2', List.length_take]; simp; omega
  · have hjl : j < n := by have := (List.getElem?_eq_some_iff.1 hj).1; rw [sw_length] at this; omega
    have hp : p = (sw ys i).getD j default := by rw [List.getD_eq_getElem?_getD, hj]; rfl
    rw [sw_get _ _ _ (by omega)] at hp
    have key : ∀ j', j' < n → d.M w base (fun k => ok k ∧ some k ≠ some g) (ys.getD j' default) (((cur.toList.take (n * d.sz)).drop (j' * d.sz)).take d.sz) := fun j' hj' => hr.2 j' _ (by rw [List.getD_eq_getElem?_getD, List.getElem?_eq_getElem (by omega)]; rfl)
    have mv : ∀ {x : α} {cs : List Value}, d.M w base (fun k => ok k ∧ some k ≠ some g) x cs → d.M w2 base (fun k => ok k ∧ some k ≠ some g) x cs := fun hM => d.M_move (fun k hk' => hk k (fun e => hk'.2 (by rw [e]))) hM
    have bound : ∀ j', j' < n → ∀ t, t < d.sz → j' * d.sz + t < n * d.sz := fun j' hj' t ht => by
      have : (j' + 1) * d.sz ≤ n * d.sz := Nat.mul_le_mul_right _ hj'
      rw [Nat.add_mul, Nat.one_mul] at this
      omega
    have chunk : ∀ j', j' < n → (∀ t, t < d.sz → cur2[j * d.sz + t]? = cur[j' * d.sz + t]?) → ((cur2.toList.take (n * d.sz)).drop (j * d.sz)).take d.sz = ((cur.toList.take (n * d.sz)).drop (j' * d.sz)).take d.sz := fun j' hj' ht => by
      apply List.ext_getElem?
      intro t
      rw [chunk_get, chunk_get]
      split
      · rename_i htl
        rw [List.getElem?_take_of_lt (bound j hjl t htl), List.getElem?_take_of_lt (bound j' hj' t htl), Array.getElem?_toList, Array.getElem?_toList]
        exact ht t htl
      · rfl
    by_cases c1 : j = i + 1
    · subst c1
      rw [if_pos rfl] at hp
      subst hp
      rw [chunk i (by omega) (fun t ht => by rw [hget, div_of ht, if_neg (by omega), if_pos rfl]; congr 1; rw [Nat.add_mul, Nat.one_mul]; omega)]
      exact mv (key i (by omega))
    · rw [if_neg c1] at hp
      by_cases c2 : j = i
      · subst c2
        rw [if_pos rfl] at hp
        subst hp
        rw [chunk (j + 1) (by omega) (fun t ht => by rw [hget, div_of ht, if_pos rfl]; congr 1; rw [Nat.add_mul, Nat.one_mul]; omega)]
        exact mv (key (j + 1) (by omega))
      · rw [if_neg c2] at hp
        subst hp
        rw [chunk j hjl (fun t ht => by rw [hget, div_of ht, if_neg c2, if_neg c1])]
        exact mv (key j hjl)
/-- A row's element. -/
theorem R_at {α : Type} [Inhabited α] {d : Kd α} {e : Nat} {w : World} {base : Nat} {ok : Nat → Prop} {g n c : Nat} {ys : List α} (h : d.R e w base ok (.slice (some ⟨g, 0, none⟩) n c) ys) {i : Nat} (hi : i < n) :
    ∃ cs, d.M w base (fun k => ok k ∧ some k ≠ some g) (ys.getD i default) cs ∧ cs.length = d.sz ∧ w.rangeAt g (i * d.sz) cs ∧ w.there g (i * d.sz) d.sz := by
  obtain ⟨hl, hg, cur, hb, hn, hz, hr⟩ := R_form h
  have hM := hr.2 i (ys.getD i default) (by rw [List.getD_eq_getElem?_getD, List.getElem?_eq_getElem (by omega)]; rfl)
  have hb1 : (i + 1) * d.sz ≤ n * d.sz := Nat.mul_le_mul_right _ hi
  have hb2 : n * d.sz ≤ c * d.sz := Nat.mul_le_mul_right _ hn
  rw [Nat.add_mul, Nat.one_mul] at hb1
  refine ⟨_, hM, d.K_len (d.K_of_M hM), fun j v hj => ?_, fun j hj => ?_⟩
  · rw [chunk_get] at hj
    split at hj
    · rw [List.getElem?_take_of_lt (by omega), Array.getElem?_toList] at hj
      rw [blk_cell hb]; exact hj
    · cases hj
  · refine ⟨?_, blk_frozen hb _⟩
    rw [blk_cell hb]
    simp
    omega
end Go.Proofs.Ytpggphjnghhmeaa.Srt
