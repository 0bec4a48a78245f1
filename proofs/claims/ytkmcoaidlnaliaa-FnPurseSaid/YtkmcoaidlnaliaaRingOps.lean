/-
  The ring behind an insertion at the end and behind a removal at an end; the walks of PushBack and of Remove.
-/
import Derived.Test.YtkmcoaidlnaliaaRing
namespace Go.Proofs.Ytkmcoaidlnaliaa.Purse
open Go.RowKit Go.Proofs.Ytkmcoaidlnaliaa.Hand Go.Proofs.YtkmcoaidlnaliaaW.PrintWords Go.Proofs.YtkmcoaidlnaliaaW.PrintLast Go.Proofs.YtkmcoaidlnaliaaW.PrintMore

def insW (w : World) (L e a n : Nat) : World := (((((w.setCell ⟨e, 1, none⟩ (P a)).setCell ⟨e, 0, none⟩ (P L)).setCell ⟨a, 0, none⟩ (P e)).setCell ⟨L, 1, none⟩ (P e)).setCell ⟨e, 2, none⟩ (P L)).setCell ⟨L, 4, none⟩ (.int .i64 (n + 1 : Nat))
section
variable {w : World} {L e a n : Nat}
theorem insW_size : (insW w L e a n).heap.size = w.heap.size := by simp [insW, World.setCell]
theorem insW_blk {b : Nat} (h : IsCells w b) : IsCells (insW w L e a n) b := (((((h.set e 1 _).set e 0 _).set a 0 _).set L 1 _).set e 2 _).set L 4 _
theorem insW_x0 {x : Nat} (h1 : e ≠ x) (h2 : a ≠ x) : (insW w L e a n).cell? ⟨x, 0, none⟩ = w.cell? ⟨x, 0, none⟩ := by
  unfold insW
  rw [rd_other _ L 4 x 0 _ (.inr (by decide)), rd_other _ e 2 x 0 _ (.inr (by decide)), rd_other _ L 1 x 0 _ (.inr (by decide)), rd_other _ a 0 x 0 _ (.inl h2), rd_other _ e 0 x 0 _ (.inl h1), rd_other _ e 1 x 0 _ (.inr (by decide))]
theorem insW_a0 {u : Value} (h1 : e ≠ a) (h : w.cell? ⟨a, 0, none⟩ = some u) : (insW w L e a n).cell? ⟨a, 0, none⟩ = some (P e) := by
  unfold insW
  rw [rd_other _ L 4 a 0 _ (.inr (by decide)), rd_other _ e 2 a 0 _ (.inr (by decide)), rd_other _ L 1 a 0 _ (.inr (by decide))]
  exact rd_same _ (by rw [rd_other _ e 0 a 0 _ (.inl h1), rd_other _ e 1 a 0 _ (.inr (by decide))]; exact h)
theorem insW_e0 {u : Value} (h1 : a ≠ e) (h : w.cell? ⟨e, 0, none⟩ = some u) : (insW w L e a n).cell? ⟨e, 0, none⟩ = some (P L) := by
  unfold insW
  rw [rd_other _ L 4 e 0 _ (.inr (by decide)), rd_other _ e 2 e 0 _ (.inr (by decide)), rd_other _ L 1 e 0 _ (.inr (by decide)), rd_other _ a 0 e 0 _ (.inl h1)]
  exact rd_same _ (by rw [rd_other _ e 1 e 0 _ (.inr (by decide))]; exact h)
theorem insW_x1 {x : Nat} (h1 : e ≠ x) (h2 : L ≠ x) : (insW w L e a n).cell? ⟨x, 1, none⟩ = w.cell? ⟨x, 1, none⟩ := by
  unfold insW
  rw [rd_other _ L 4 x 1 _ (.inr (by decide)), rd_other _ e 2 x 1 _ (.inr (by decide)), rd_other _ L 1 x 1 _ (.inl h2), rd_other _ a 0 x 1 _ (.inr (by decide)), rd_other _ e 0 x 1 _ (.inr (by decide)), rd_other _ e 1 x 1 _ (.inl h1)]
theorem insW_L1 {u : Value} (h1 : e ≠ L) (h : w.cell? ⟨L, 1, none⟩ = some u) : (insW w L e a n).cell? ⟨L, 1, none⟩ = some (P e) := by
  unfold insW
  rw [rd_other _ L 4 L 1 _ (.inr (by decide)), rd_other _ e 2 L 1 _ (.inr (by decide))]
  exact rd_same _ (by rw [rd_other _ a 0 L 1 _ (.inr (by decide)), rd_other _ e 0 L 1 _ (.inr (by decide)), rd_other _ e 1 L 1 _ (.inl h1)]; exact h)
theorem insW_e1 {u : Value} (h1 : L ≠ e) (h : w.cell? ⟨e, 1, none⟩ = some u) : (insW w L e a n).cell? ⟨e, 1, none⟩ = some (P a) := by
  unfold insW
  rw [rd_other _ L 4 e 1 _ (.inr (by decide)), rd_other _ e 2 e 1 _ (.inr (by decide)), rd_other _ L 1 e 1 _ (.inl h1), rd_other _ a 0 e 1 _ (.inr (by decide)), rd_other _ e 0 e 1 _ (.inr (by decide))]
  exact rd_same _ h
theorem insW_x2 {x : Nat} (h1 : e ≠ x) : (insW w L e a n).cell? ⟨x, 2, none⟩ = w.cell? ⟨x, 2, none⟩ := by
  unfold insW
  rw [rd_other _ L 4 x 2 _ (.inr (by decide)), rd_other _ e 2 x 2 _ (.inl h1), rd_other _ L 1 x 2 _ (.inr (by decide)), rd_other _ a 0 x 2 _ (.inr (by decide)), rd_other _ e 0 x 2 _ (.inr (by decide)), rd_other _ e 1 x 2 _ (.inr (by decide))]
theorem insW_e2 {u : Value} (h : w.cell? ⟨e, 2, none⟩ = some u) : (insW w L e a n).cell? ⟨e, 2, none⟩ = some (P L) := by
  unfold insW
  rw [rd_other _ L 4 e 2 _ (.inr (by decide))]
  exact rd_same _ (by rw [rd_other _ L 1 e 2 _ (.inr (by decide)), rd_other _ a 0 e 2 _ (.inr (by decide)), rd_other _ e 0 e 2 _ (.inr (by decide)), rd_other _ e 1 e 2 _ (.inr (by decide))]; exact h)
theorem insW_x3 (x : Nat) : (insW w L e a n).cell? ⟨x, 3, none⟩ = w.cell? ⟨x, 3, none⟩ := by
  unfold insW
  rw [rd_other _ L 4 x 3 _ (.inr (by decide)), rd_other _ e 2 x 3 _ (.inr (by decide)), rd_other _ L 1 x 3 _ (.inr (by decide)), rd_other _ a 0 x 3 _ (.inr (by decide)), rd_other _ e 0 x 3 _ (.inr (by decide)), rd_other _ e 1 x 3 _ (.inr (by decide))]
theorem insW_L4 {u : Value} (h : w.cell? ⟨L, 4, none⟩ = some u) : (insW w L e a n).cell? ⟨L, 4, none⟩ = some (.int .i64 (n + 1 : Nat)) := by
  unfold insW
  exact rd_same _ (by rw [rd_other _ e 2 L 4 _ (.inr (by decide)), rd_other _ L 1 L 4 _ (.inr (by decide)), rd_other _ a 0 L 4 _ (.inr (by decide)), rd_other _ e 0 L 4 _ (.inr (by decide)), rd_other _ e 1 L 4 _ (.inr (by decide))]; exact h)
theorem remW_size {z c : Nat} : (remW w L e z c n).heap.size = w.heap.size := by simp [remW, World.setCell]
theorem remW_blk {z c b : Nat} (h : IsCells w b) : IsCells (remW w L e z c n) b := (((((h.set z 0 _).set c 1 _).set e 0 _).set e 1 _).set e 2 _).set L 4 _
theorem remW_x0 {z c x : Nat} (h1 : e ≠ x) (h2 : z ≠ x) : (remW w L e z c n).cell? ⟨x, 0, none⟩ = w.cell? ⟨x, 0, none⟩ := by
  unfold remW
  rw [rd_other _ L 4 x 0 _ (.inr (by decide)), rd_other _ e 2 x 0 _ (.inr (by decide)), rd_other _ e 1 x 0 _ (.inr (by decide)), rd_other _ e 0 x 0 _ (.inl h1), rd_other _ c 1 x 0 _ (.inr (by decide)), rd_other _ z 0 x 0 _ (.inl h2)]
theorem remW_z0 {z c : Nat} {u : Value} (h1 : e ≠ z) (h : w.cell? ⟨z, 0, none⟩ = some u) : (remW w L e z c n).cell? ⟨z, 0, none⟩ = some (P c) := by
  unfold remW
  rw [rd_other _ L 4 z 0 _ (.inr (by decide)), rd_other _ e 2 z 0 _ (.inr (by decide)), rd_other _ e 1 z 0 _ (.inr (by decide)), rd_other _ e 0 z 0 _ (.inl h1), rd_other _ c 1 z 0 _ (.inr (by decide))]
  exact rd_same _ h
theorem remW_x1 {z c x : Nat} (h1 : e ≠ x) (h2 : c ≠ x) : (remW w L e z c n).cell? ⟨x, 1, none⟩ = w.cell? ⟨x, 1, none⟩ := by
  unfold remW
  rw [rd_other _ L 4 x 1 _ (.inr (by decide)), rd_other _ e 2 x 1 _ (.inr (by decide)), rd_other _ e 1 x 1 _ (.inl h1), rd_other _ e 0 x 1 _ (.inr (by decide)), rd_other _ c 1 x 1 _ (.inl h2), rd_other _ z 0 x 1 _ (.inr (by decide))]
theorem remW_c1 {z c : Nat} {u : Value} (h1 : e ≠ c) (h : w.cell? ⟨c, 1, none⟩ = some u) : (remW w L e z c n).cell? ⟨c, 1, none⟩ = some (P z) := by
  unfold remW
  rw [rd_other _ L 4 c 1 _ (.inr (by decide)), rd_other _ e 2 c 1 _ (.inr (by decide)), rd_other _ e 1 c 1 _ (.inl h1), rd_other _ e 0 c 1 _ (.inr (by decide))]
  exact rd_same _ (by rw [rd_other _ z 0 c 1 _ (.inr (by decide))]; exact h)
theorem remW_x2 {z c x : Nat} (h1 : e ≠ x) : (remW w L e z c n).cell? ⟨x, 2, none⟩ = w.cell? ⟨x, 2, none⟩ := by
  unfold remW
  rw [rd_other _ L 4 x 2 _ (.inr (by decide)), rd_other _ e 2 x 2 _ (.inl h1), rd_other _ e 1 x 2 _ (.inr (by decide)), rd_other _ e 0 x 2 _ (.inr (by decide)), rd_other _ c 1 x 2 _ (.inr (by decide)), rd_other _ z 0 x 2 _ (.inr (by decide))]
theorem remW_x3 {z c : Nat} (x : Nat) : (remW w L e z c n).cell? ⟨x, 3, none⟩ = w.cell? ⟨x, 3, none⟩ := by
  unfold remW
  rw [rd_other _ L 4 x 3 _ (.inr (by decide)), rd_other _ e 2 x 3 _ (.inr (by decide)), rd_other _ e 1 x 3 _ (.inr (by decide)), rd_other _ e 0 x 3 _ (.inr (by decide)), rd_other _ c 1 x 3 _ (.inr (by decide)), rd_other _ z 0 x 3 _ (.inr (by decide))]
theorem remW_L4 {z c : Nat} {u : Value} (h : w.cell? ⟨L, 4, none⟩ = some u) : (remW w L e z c n).cell? ⟨L, 4, none⟩ = some (.int .i64 ((n : Int) - 1)) := by
  unfold remW
  exact rd_same _ (by rw [rd_other _ e 2 L 4 _ (.inr (by decide)), rd_other _ e 1 L 4 _ (.inr (by decide)), rd_other _ e 0 L 4 _ (.inr (by decide)), rd_other _ c 1 L 4 _ (.inr (by decide)), rd_other _ z 0 L 4 _ (.inr (by decide))]; exact h)
end

theorem Fr.ins {S : List Nat} {w : World} {L e a n : Nat} (hL : L ∈ S) (he : e ∈ S) (ha : a ∈ S) : Fr S w (insW w L e a n) :=
  ((((((Fr.refl S w).set he 1 _).set he 0 _).set ha 0 _).set hL 1 _).set he 2 _).set hL 4 _
theorem Fr.rem {S : List Nat} {w : World} {L e z c n : Nat} (hL : L ∈ S) (he : e ∈ S) (hz : z ∈ S) (hc : c ∈ S) : Fr S w (remW w L e z c n) :=
  ((((((Fr.refl S w).set hz 0 _).set hc 1 _).set he 0 _).set he 1 _).set he 2 _).set hL 4 _

theorem Ring.push {w : World} {base L e : Nat} {bs : List Nat} {vs : List Value} {v : Value} (h : Ring w base L bs vs) (hne : e ∉ L :: bs) (hb : base ≤ e) (hs : e < w.heap.size) (hf : IsCells w e)
    (e0 : w.cell? ⟨e, 0, none⟩ = some (.pointer none)) (e1 : w.cell? ⟨e, 1, none⟩ = some (.pointer none)) (e2 : w.cell? ⟨e, 2, none⟩ = some (.pointer none)) (e3 : w.cell? ⟨e, 3, none⟩ = some v) :
    Ring (insW w L e (lastB L bs) bs.length) base L (bs ++ [e]) (vs ++ [v]) := by
  have hx : ∀ x ∈ L :: bs, e ≠ x := fun x hx he => hne (he ▸ hx)
  have ha : e ≠ lastB L bs := hx _ (lastB_mem L bs)
  have hL : e ≠ L := hx L (by simp)
  refine ⟨?_, fun b hb' => ?_, fun b hb' => ?_, ?_, ?_, ?_, fun b hb' => ?_, by rw [List.length_append, List.length_append, h.vlen]; rfl, fun i b u h1 h2 => ?_⟩
  · rw [← List.cons_append]
    exact List.nodup_append.2 ⟨h.nodup, by simp, fun x hx' y hy => by rw [List.mem_singleton.1 hy]; exact fun e' => hx x hx' e'.symm⟩
  · rw [insW_size]
    rw [← List.cons_append] at hb'
    rcases List.mem_append.1 hb' with g | g
    · exact h.low b g
    · rw [List.mem_singleton.1 g]; exact ⟨hb, hs⟩
  · refine insW_blk ?_
    rw [← List.cons_append] at hb'
    rcases List.mem_append.1 hb' with g | g
    · exact h.blk b g
    · rw [List.mem_singleton.1 g]; exact hf
  · rw [insW_L4 h.len, List.length_append]
    rfl
  · exact Fwd.snoc h.nodup (fun x hx' hne' => insW_x0 (hx x hx') (fun e' => hne' e'.symm)) (insW_a0 ha h.fwd.last) (insW_e0 (fun e' => ha e'.symm) e0) h.fwd
  · refine Bwd.snoc (fun x hx' => insW_x1 (hx x (by simp [hx'])) (fun e' => ?_)) (insW_e1 (fun e' => hL e'.symm) e1) (insW_L1 hL h.bwd.last) h.bwd
    subst e'
    exact (List.nodup_cons.1 h.nodup).1 hx'
  · rcases List.mem_append.1 hb' with g | g
    · rw [insW_x2 (hx b (by simp [g]))]; exact h.own b g
    · rw [List.mem_singleton.1 g]; exact insW_e2 e2
  · rw [insW_x3]
    by_cases hi : i < bs.length
    · rw [List.getElem?_append_left hi] at h1
      rw [List.getElem?_append_left (by rw [h.vlen]; exact hi)] at h2
      exact h.val i b u h1 h2
    · rw [List.getElem?_append_right (by omega)] at h1
      rw [List.getElem?_append_right (by rw [h.vlen]; omega), h.vlen] at h2
      have hlt := (List.getElem?_eq_some_iff.1 h1).1
      have hz : i - bs.length = 0 := by simp at hlt; omega
      rw [hz] at h1 h2
      simp only [List.getElem?_cons_zero, Option.some.injEq] at h1 h2
      subst h1 h2
      exact e3
theorem Ring.pop {w : World} {base L e : Nat} {t : List Nat} {us : List Value} {v : Value} (h : Ring w base L (t ++ [e]) (us ++ [v])) : Ring (remW w L e (lastB L t) L (t.length + 1)) base L t us := by
  have hnd := h.nodup
  rw [← List.cons_append] at hnd
  obtain ⟨n1, _, n3⟩ := List.nodup_append.1 hnd
  have hx : ∀ x ∈ L :: t, e ≠ x := fun x hx he => n3 x hx e (by simp) he.symm
  have hsub : ∀ x ∈ L :: t, x ∈ L :: (t ++ [e]) := fun x hx => by rw [← List.cons_append]; exact List.mem_append_left _ hx
  have hul : us.length = t.length := by have := h.vlen; simp at this; exact this
  refine ⟨n1, fun b hb => by rw [remW_size]; exact h.low b (hsub b hb), fun b hb => remW_blk (h.blk b (hsub b hb)), ?_, ?_, ?_, fun b hb => ?_, hul, fun i b u h1 h2 => ?_⟩
  · rw [remW_L4 h.len]
    congr 2
    omega
  · refine Fwd.cut n1 (fun x hx' hne' => remW_x0 (hx x hx') (fun e' => hne' e'.symm)) ?_ h.fwd
    have hz : ∃ u, w.cell? ⟨lastB L t, 0, none⟩ = some u := by
      clear hx hsub hul n3
      have : ∀ (b : Nat) (t : List Nat), Fwd w L b (t ++ [e]) → ∃ u, w.cell? ⟨lastB b t, 0, none⟩ = some u := by
        intro b t
        induction t generalizing b with
        | nil => intro g; exact ⟨_, g.1⟩
        | cons c t ih => intro g; exact ih c g.2
      exact this L t h.fwd
    obtain ⟨u, hu⟩ := hz
    exact remW_z0 (hx _ (lastB_mem L t)) hu
  · refine Bwd.cut (fun x hx' => remW_x1 (hx x (by simp [hx'])) (fun e' => ?_)) (remW_c1 (hx L (by simp)) h.bwd.last) h.bwd
    subst e'
    exact (List.nodup_cons.1 n1).1 hx'
  · rw [remW_x2 (hx b (by simp [hb]))]
    exact h.own b (List.mem_append_left _ hb)
  · rw [remW_x3]
    have hi := (List.getElem?_eq_some_iff.1 h1).1
    exact h.val i b u (by rw [List.getElem?_append_left hi]; exact h1) (by rw [List.getElem?_append_left (by omega)]; exact h2)
theorem Ring.shift {w : World} {base L e : Nat} {t : List Nat} {us : List Value} {v : Value} (h : Ring w base L (e :: t) (v :: us)) : Ring (remW w L e L (t.headD L) (t.length + 1)) base L t us := by
  obtain ⟨n1, n2⟩ := List.nodup_cons.1 h.nodup
  obtain ⟨n3, n4⟩ := List.nodup_cons.1 n2
  have hLe : e ≠ L := fun e' => n1 (by rw [← e']; exact .head _)
  have hte : ∀ x ∈ t, e ≠ x := fun x hx e' => n3 (e' ▸ hx)
  have hLt : L ∉ t := fun hm => n1 (.tail _ hm)
  have hsub : ∀ x ∈ L :: t, x ∈ L :: e :: t := fun x hx => by
    rcases List.mem_cons.1 hx with rfl | hx
    · exact .head _
    · exact .tail _ (.tail _ hx)
  have hul : us.length = t.length := by have := h.vlen; simp at this; exact this
  have hf := h.fwd
  have hb := h.bwd
  refine ⟨List.nodup_cons.2 ⟨hLt, n4⟩, fun b hb => by rw [remW_size]; exact h.low b (hsub b hb), fun b hb => remW_blk (h.blk b (hsub b hb)), ?_, ?_, ?_, fun b hb => ?_, hul, fun i b u h1 h2 => ?_⟩
  · rw [remW_L4 h.len]
    congr 2
    omega
  · cases t with
    | nil => exact remW_z0 hLe hf.1
    | cons c t => exact ⟨remW_z0 hLe hf.1, Fwd.ext (fun x hx => remW_x0 (hte x hx) (fun e' => hLt (e' ▸ hx))) hf.2.2⟩
  · cases t with
    | nil => exact remW_c1 hLe hb.2
    | cons c t =>
      have hct := (List.nodup_cons.1 n4).1
      refine ⟨remW_c1 (hte c (by simp)) hb.2.1, Bwd.ext (fun x hx => ?_) hb.2.2⟩
      rcases List.mem_cons.1 hx with rfl | hx
      · exact remW_x1 hLe (fun e' => hLt (by rw [← e']; exact .head _))
      · exact remW_x1 (hte x (by simp [hx])) (fun e' => by subst e'; exact hct hx)
  · rw [remW_x2 (hte b hb)]
    exact h.own b (by simp [hb])
  · rw [remW_x3]
    exact h.val (i + 1) b u (by simpa using h1) (by simpa using h2)
end Go.Proofs.Ytkmcoaidlnaliaa.Purse
