/-
  The ring of a list, as cells: its nodes ahead and behind; what a store leaves; frames by blocks.
-/
import Derived.Test.YtkmcoaidlnaliaaListWalk
namespace Go.Proofs.Ytkmcoaidlnaliaa.Purse
open Go.RowKit Go.Proofs.Ytkmcoaidlnaliaa.Hand Go.Proofs.YtkmcoaidlnaliaaW.PrintWords Go.Proofs.YtkmcoaidlnaliaaW.PrintLast Go.Proofs.YtkmcoaidlnaliaaW.PrintMore

theorem rd_same {w : World} {b o : Nat} {u : Value} (v : Value) (h : w.cell? ⟨b, o, none⟩ = some u) : (w.setCell ⟨b, o, none⟩ v).cell? ⟨b, o, none⟩ = some v := World.cell?_setCell_same' _ _ _ (by rw [h]; rfl)
theorem rd_other (w : World) (b o b' o' : Nat) (v : Value) (h : b ≠ b' ∨ o ≠ o') : (w.setCell ⟨b, o, none⟩ v).cell? ⟨b', o', none⟩ = w.cell? ⟨b', o', none⟩ :=
  World.cell?_setCell_other _ _ _ _ (fun e => by injection e with e1 e2; omega)
theorem heap_set (w : World) (b o k : Nat) (v : Value) (h : k ≠ b) : (w.setCell ⟨b, o, none⟩ v).heap[k]? = w.heap[k]? := Below.heap_setCell w ⟨b, o, none⟩ v k h

/-- Of what was there, the blocks of S alone may have changed. -/
structure Fr (S : List Nat) (w w' : World) : Prop where
  os : w'.os = w.os
  tape : w'.tape = w.tape
  output : w'.output = w.output
  size : w.heap.size ≤ w'.heap.size
  blk : ∀ k, k < w.heap.size → k ∉ S → w'.heap[k]? = w.heap[k]?
theorem Fr.refl (S : List Nat) (w : World) : Fr S w w := ⟨rfl, rfl, rfl, Nat.le_refl _, fun _ _ _ => rfl⟩
theorem Fr.trans {S : List Nat} {w w1 w2 : World} (h : Fr S w w1) (g : Fr S w1 w2) : Fr S w w2 :=
  ⟨g.os.trans h.os, g.tape.trans h.tape, g.output.trans h.output, Nat.le_trans h.size g.size, fun k hk hs => (g.blk k (Nat.lt_of_lt_of_le hk h.size) hs).trans (h.blk k hk hs)⟩
theorem Fr.mono {S T : List Nat} {w w' : World} (h : Fr S w w') (hs : ∀ x ∈ S, x ∈ T) : Fr T w w' := ⟨h.os, h.tape, h.output, h.size, fun k hk hn => h.blk k hk (fun hm => hn (hs k hm))⟩
theorem Fr.of_below {S : List Nat} {w w' : World} (h : Below w.heap.size w w') : Fr S w w' := ⟨h.os, h.tape, h.output, h.size, fun k hk _ => h.block k hk⟩
theorem Fr.to_below {S : List Nat} {B : Nat} {w w' : World} (h : Fr S w w') (hB : B ≤ w.heap.size) (hs : ∀ b ∈ S, B ≤ b) : Below B w w' :=
  ⟨h.os, h.tape, h.output, h.size, fun k hk => h.blk k (by omega) (fun hm => by have := hs k hm; omega)⟩
theorem Fr.set {S : List Nat} {w w' : World} (h : Fr S w w') {b : Nat} (hb : b ∈ S) (o : Nat) (v : Value) : Fr S w (w'.setCell ⟨b, o, none⟩ v) :=
  ⟨h.os, h.tape, h.output, by simpa [World.setCell] using h.size, fun k hk hn => (heap_set w' b o k v (fun e => hn (e ▸ hb))).trans (h.blk k hk hn)⟩
theorem Fr.drew {S : List Nat} {w w' : World} (h : Fr S w w') : Fr S w w'.drew := ⟨h.os, h.tape, h.output, h.size, h.blk⟩
theorem Fr.alloc {S : List Nat} {w w' : World} (h : Fr S w w') (o : Obj) : Fr S w (w'.alloc o) := h.trans (.of_below (below_alloc (Below.refl _ _) o))
/-- A block that was made since may change, too. -/
theorem Fr.new {S : List Nat} {e : Nat} {w w' : World} (h : Fr (e :: S) w w') (he : w.heap.size ≤ e) : Fr S w w' :=
  ⟨h.os, h.tape, h.output, h.size, fun k hk hn => h.blk k hk (fun hm => by rcases List.mem_cons.1 hm with rfl | hm <;> first | omega | exact hn hm)⟩
theorem cell_eq {w w' : World} {b : Nat} (h : w'.heap[b]? = w.heap[b]?) (j : Nat) : w'.cell? ⟨b, j, none⟩ = w.cell? ⟨b, j, none⟩ := by unfold World.cell?; simp only [h]
theorem fz_eq {w w' : World} {b : Nat} (h : w'.heap[b]? = w.heap[b]?) (j : Nat) : w'.frozen? ⟨b, j, none⟩ = w.frozen? ⟨b, j, none⟩ := by unfold World.frozen?; simp only [h]

def Fwd (w : World) (L : Nat) : Nat → List Nat → Prop
  | b, [] => w.cell? ⟨b, 0, none⟩ = some (P L)
  | b, c :: t => w.cell? ⟨b, 0, none⟩ = some (P c) ∧ Fwd w L c t
def Bwd (w : World) (L : Nat) : Nat → List Nat → Prop
  | b, [] => w.cell? ⟨L, 1, none⟩ = some (P b)
  | b, c :: t => w.cell? ⟨c, 1, none⟩ = some (P b) ∧ Bwd w L c t
def lastB : Nat → List Nat → Nat
  | b, [] => b
  | _, c :: t => lastB c t
theorem lastB_mem : ∀ (b : Nat) (bs : List Nat), lastB b bs ∈ b :: bs
  | _, [] => List.mem_singleton.2 rfl
  | _, c :: t => List.mem_cons_of_mem _ (lastB_mem c t)
theorem lastB_snoc : ∀ (b : Nat) (t : List Nat) (e : Nat), lastB b (t ++ [e]) = e
  | _, [], _ => rfl
  | _, c :: t, e => lastB_snoc c t e
theorem Fwd.head {w : World} {L b : Nat} {bs : List Nat} (h : Fwd w L b bs) : w.cell? ⟨b, 0, none⟩ = some (P (bs.headD L)) := by
  cases bs with
  | nil => exact h
  | cons c t => exact h.1
theorem Fwd.last {w : World} {L : Nat} : ∀ {b : Nat} {bs : List Nat}, Fwd w L b bs → w.cell? ⟨lastB b bs, 0, none⟩ = some (P L)
  | _, [], h => h
  | _, c :: t, h => Fwd.last (b := c) (bs := t) h.2
theorem Bwd.last {w : World} {L : Nat} : ∀ {b : Nat} {bs : List Nat}, Bwd w L b bs → w.cell? ⟨L, 1, none⟩ = some (P (lastB b bs))
  | _, [], h => h
  | _, c :: t, h => Bwd.last (b := c) (bs := t) h.2
theorem Fwd.ext {w w' : World} {L : Nat} : ∀ {b : Nat} {bs : List Nat}, (∀ x ∈ b :: bs, w'.cell? ⟨x, 0, none⟩ = w.cell? ⟨x, 0, none⟩) → Fwd w L b bs → Fwd w' L b bs
  | b, [], h, g => (h b (by simp)).trans g
  | b, c :: t, h, g => ⟨(h b (by simp)).trans g.1, Fwd.ext (fun x hx => h x (List.mem_cons_of_mem _ hx)) g.2⟩
theorem Bwd.ext {w w' : World} {L : Nat} : ∀ {b : Nat} {bs : List Nat}, (∀ x ∈ L :: bs, w'.cell? ⟨x, 1, none⟩ = w.cell? ⟨x, 1, none⟩) → Bwd w L b bs → Bwd w' L b bs
  | b, [], h, g => (h L (by simp)).trans g
  | b, c :: t, h, g => ⟨(h c (by simp)).trans g.1, Bwd.ext (fun x hx => h x (by rcases List.mem_cons.1 hx with rfl | hx <;> simp [*])) g.2⟩
theorem Fwd.snoc {w w' : World} {L e : Nat} : ∀ {b : Nat} {bs : List Nat}, (b :: bs).Nodup → (∀ x ∈ b :: bs, x ≠ lastB b bs → w'.cell? ⟨x, 0, none⟩ = w.cell? ⟨x, 0, none⟩) → w'.cell? ⟨lastB b bs, 0, none⟩ = some (P e) → w'.cell? ⟨e, 0, none⟩ = some (P L) → Fwd w L b bs → Fwd w' L b (bs ++ [e])
  | b, [], _, _, h1, h2, _ => ⟨h1, h2⟩
  | b, c :: t, hn, h, h1, h2, g => by
    have hn2 := List.nodup_cons.1 hn
    have hne : b ≠ lastB c t := fun e' => hn2.1 (e' ▸ lastB_mem c t)
    exact ⟨(h b (by simp) hne).trans g.1, Fwd.snoc hn2.2 (fun x hx => h x (List.mem_cons_of_mem _ hx)) h1 h2 g.2⟩
theorem Bwd.snoc {w w' : World} {L e : Nat} : ∀ {b : Nat} {bs : List Nat}, (∀ x ∈ bs, w'.cell? ⟨x, 1, none⟩ = w.cell? ⟨x, 1, none⟩) → w'.cell? ⟨e, 1, none⟩ = some (P (lastB b bs)) → w'.cell? ⟨L, 1, none⟩ = some (P e) → Bwd w L b bs → Bwd w' L b (bs ++ [e])
  | b, [], _, h1, h2, _ => ⟨h1, h2⟩
  | b, c :: t, h, h1, h2, g => ⟨(h c (by simp)).trans g.1, Bwd.snoc (fun x hx => h x (List.mem_cons_of_mem _ hx)) h1 h2 g.2⟩
theorem Fwd.cut {w w' : World} {L e : Nat} : ∀ {b : Nat} {t : List Nat}, (b :: t).Nodup → (∀ x ∈ b :: t, x ≠ lastB b t → w'.cell? ⟨x, 0, none⟩ = w.cell? ⟨x, 0, none⟩) → w'.cell? ⟨lastB b t, 0, none⟩ = some (P L) → Fwd w L b (t ++ [e]) → Fwd w' L b t
  | b, [], _, _, h1, _ => h1
  | b, c :: t, hn, h, h1, g => by
    have hn2 := List.nodup_cons.1 hn
    have hne : b ≠ lastB c t := fun e' => hn2.1 (e' ▸ lastB_mem c t)
    exact ⟨(h b (by simp) hne).trans g.1, Fwd.cut hn2.2 (fun x hx => h x (List.mem_cons_of_mem _ hx)) h1 g.2⟩
theorem Bwd.cut {w w' : World} {L e : Nat} : ∀ {b : Nat} {t : List Nat}, (∀ x ∈ t, w'.cell? ⟨x, 1, none⟩ = w.cell? ⟨x, 1, none⟩) → w'.cell? ⟨L, 1, none⟩ = some (P (lastB b t)) → Bwd w L b (t ++ [e]) → Bwd w' L b t
  | b, [], _, h1, _ => h1
  | b, c :: t, h, h1, g => ⟨(h c (by simp)).trans g.1, Bwd.cut (fun x hx => h x (List.mem_cons_of_mem _ hx)) h1 g.2⟩
theorem Bwd.at_ {w : World} {L : Nat} : ∀ {b : Nat} {t : List Nat} {e : Nat}, Bwd w L b (t ++ [e]) → w.cell? ⟨e, 1, none⟩ = some (P (lastB b t))
  | _, [], _, g => g.1
  | _, c :: t, _, g => Bwd.at_ (b := c) (t := t) g.2
theorem Fwd.at_ {w : World} {L : Nat} : ∀ {b : Nat} {t : List Nat} {e : Nat}, Fwd w L b (t ++ [e]) → w.cell? ⟨e, 0, none⟩ = some (P L)
  | _, [], _, g => g.2
  | _, c :: t, _, g => Fwd.at_ (b := c) (t := t) g.2

/-- A block of cells that is not frozen. -/
def IsCells (w : World) (b : Nat) : Prop := ∃ cs t, w.heap[b]? = some (.cells cs t (0, 0))
theorem IsCells.set {w : World} {b : Nat} (h : IsCells w b) (a o : Nat) (v : Value) : IsCells (w.setCell ⟨a, o, none⟩ v) b := by
  obtain ⟨cs, t, e⟩ := h
  by_cases hab : a = b
  · subst hab
    exact ⟨_, _, blk_set e o v⟩
  · exact ⟨cs, t, (heap_set w a o b v (fun e' => hab e'.symm)).trans e⟩
theorem IsCells.fz {w : World} {b : Nat} (h : IsCells w b) (j : Nat) : w.frozen? ⟨b, j, none⟩ = false := by
  obtain ⟨cs, t, e⟩ := h
  unfold World.frozen?
  rw [e]
  simp
theorem IsCells.eq {w w' : World} {b : Nat} (h : IsCells w b) (e : w'.heap[b]? = w.heap[b]?) : IsCells w' b := by
  obtain ⟨cs, t, e1⟩ := h
  exact ⟨cs, t, e.trans e1⟩
/-- A list at L: its nodes' blocks, its values. -/
structure Ring (w : World) (base L : Nat) (bs : List Nat) (vs : List Value) : Prop where
  nodup : (L :: bs).Nodup
  low : ∀ b ∈ L :: bs, base ≤ b ∧ b < w.heap.size
  blk : ∀ b ∈ L :: bs, IsCells w b
  len : w.cell? ⟨L, 4, none⟩ = some (.int .i64 bs.length)
  fwd : Fwd w L L bs
  bwd : Bwd w L L bs
  own : ∀ b ∈ bs, w.cell? ⟨b, 2, none⟩ = some (P L)
  vlen : vs.length = bs.length
  val : ∀ (i b : Nat) (v : Value), bs[i]? = some b → vs[i]? = some v → w.cell? ⟨b, 3, none⟩ = some v
theorem Ring.fz {w : World} {base L : Nat} {bs : List Nat} {vs : List Value} (h : Ring w base L bs vs) (b : Nat) (hb : b ∈ L :: bs) (j : Nat) : w.frozen? ⟨b, j, none⟩ = false := (h.blk b hb).fz j
theorem Ring.frame {w w' : World} {base L : Nat} {bs : List Nat} {vs : List Value} (h : Ring w base L bs vs) (hk : ∀ k ∈ L :: bs, w'.heap[k]? = w.heap[k]?) (hs : w.heap.size ≤ w'.heap.size) : Ring w' base L bs vs where
  nodup := h.nodup
  low := fun b hb => ⟨(h.low b hb).1, Nat.lt_of_lt_of_le (h.low b hb).2 hs⟩
  blk := fun b hb => (h.blk b hb).eq (hk b hb)
  len := (cell_eq (hk L (by simp)) 4).trans h.len
  fwd := h.fwd.ext fun x hx => cell_eq (hk x hx) 0
  bwd := h.bwd.ext fun x hx => cell_eq (hk x hx) 1
  own := fun b hb => (cell_eq (hk b (by simp [hb])) 2).trans (h.own b hb)
  vlen := h.vlen
  val := fun i b v h1 h2 => (cell_eq (hk b (by simp [List.mem_of_getElem? h1])) 3).trans (h.val i b v h1 h2)
end Go.Proofs.Ytkmcoaidlnaliaa.Purse
