/-
  A local array of four numbers in its block: stored into, read.
-/
import Derived.Test.YtfhkkojdaejnjaaDoorHand
import Derived.Test.YtfhkkojdaejnjaaDoorBuf
import Derived.Test.YtfhkkojdaejnjaaDoorPFnFormsx1
namespace Go.Proofs.YtfhkkojdaejnjaaDoor.Gcs
open Go.RowKit Go.Proofs.YtfhkkojdaejnjaaDoor.Hand Go.Proofs.YtfhkkojdaejnjaaDoor.PFnForms Go.Proofs.YtfhkkojdaejnjaaDoorW.PrintWords Go.Proofs.YtfhkkojdaejnjaaDoorW.PrintLast Go.Proofs.YtfhkkojdaejnjaaDoorW.PrintMore

/-- The box of four numbers. -/
structure Bx (w : World) (g : Nat) (a b c d : Int) : Prop where
  blk : w.heap[g]? = some (.cells #[.int .u64 a, .int .u64 b, .int .u64 c, .int .u64 d] 74 (0, 0))
theorem Bx.k0 {w : World} {g : Nat} {a b c d : Int} (h : Bx w g a b c d) : w.cell? ⟨g, 0, none⟩ = some (.int .u64 a) := by unfold World.cell?; simp only [h.blk]; rfl
theorem Bx.k1 {w : World} {g : Nat} {a b c d : Int} (h : Bx w g a b c d) : w.cell? ⟨g, 1, none⟩ = some (.int .u64 b) := by unfold World.cell?; simp only [h.blk]; rfl
theorem Bx.k2 {w : World} {g : Nat} {a b c d : Int} (h : Bx w g a b c d) : w.cell? ⟨g, 2, none⟩ = some (.int .u64 c) := by unfold World.cell?; simp only [h.blk]; rfl
theorem Bx.k3 {w : World} {g : Nat} {a b c d : Int} (h : Bx w g a b c d) : w.cell? ⟨g, 3, none⟩ = some (.int .u64 d) := by unfold World.cell?; simp only [h.blk]; rfl
theorem Bx.fz {w : World} {g : Nat} {a b c d : Int} (h : Bx w g a b c d) (i : Nat) : w.frozen? ⟨g, i, none⟩ = false := by unfold World.frozen?; simp only [h.blk]; simp
theorem Bx.lt {w : World} {g : Nat} {a b c d : Int} (h : Bx w g a b c d) : g < w.heap.size := (Array.getElem?_eq_some_iff.1 h.blk).1
theorem Bx.below {w w1 : World} {g : Nat} {a b c d : Int} (h : Bx w g a b c d) (hb : Below w.heap.size w w1) : Bx w1 g a b c d := ⟨(hb.block g h.lt).trans h.blk⟩

theorem Bx.frame {w w1 : World} {g : Nat} {a b c d : Int} (h : Bx w g a b c d) (hb : w1.heap[g]? = w.heap[g]?) : Bx w1 g a b c d := ⟨hb.trans h.blk⟩
theorem bx_set {w : World} {g i : Nat} {cs : Array Value} {T : TypeId} {y : Value} (h : w.heap[g]? = some (.cells cs T (0, 0))) : (w.setCell ⟨g, i, none⟩ y).heap[g]? = some (.cells (cs.setIfInBounds i y) T (0, 0)) := by
  simp [World.setCell, Array.getElem?_modify, h]
section
variable {ops : Array Oper} {rest : List Oper} {o : Oper} {a : Act} {Q : Exit → Act → World → Prop} {W : World}
theorem st_run {p : Tmp} {v : Operand} (ho : o.op = .store 22 (.tmp p) v) {g i : Nat} {x z : Int} (hp : a.eval (.tmp p) = .pointer (some ⟨g, i, none⟩)) (hv : a.eval v = .int .u64 x) (hc : W.cell? ⟨g, i, none⟩ = some (.int .u64 z)) (hf : W.frozen? ⟨g, i, none⟩ = false) :
    (execOp a.eval o).run Tryd.prog W = .ok .skip (W.setCell ⟨g, i, none⟩ (.int .u64 x)) := by
  unfold execOp
  rw [ho]
  simp only [hp, hv]
  simp [go_sem, hc, hf]
theorem st0 (hgd : o.guard = none) {p : Tmp} {v : Operand} (ho : o.op = .store 22 (.tmp p) v) (hN : o.dst = none) {g : Nat} {B : Nat} {w0 : World} {y a0 a1 a2 a3 : Int} (hb : Bx W g a0 a1 a2 a3) (hB : Below B w0 W) (hg : B ≤ g)
    (hp : a.eval (.tmp p) = .pointer (some ⟨g, 0, none⟩)) (hv : a.eval v = .int .u64 y)
    (h : ∀ x w1, x = y → Bx w1 g x a1 a2 a3 → Below B w0 w1 → (∀ k, k ≠ g → w1.heap[k]? = W.heap[k]?) → wpList Tryd.prog ops Q rest a w1) : wpList Tryd.prog ops Q (o :: rest) a W :=
  store_event hgd ho hN (st_run ho hp hv hb.k0 (hb.fz 0)) fun w1 e => h y w1 rfl (by subst e; exact ⟨bx_set hb.blk⟩) (by subst e; exact hB.setCell hg _) (by subst e; exact fun k hk => Below.heap_setCell W _ _ k hk)
theorem st1 (hgd : o.guard = none) {p : Tmp} {v : Operand} (ho : o.op = .store 22 (.tmp p) v) (hN : o.dst = none) {g : Nat} {B : Nat} {w0 : World} {y a0 a1 a2 a3 : Int} (hb : Bx W g a0 a1 a2 a3) (hB : Below B w0 W) (hg : B ≤ g)
    (hp : a.eval (.tmp p) = .pointer (some ⟨g, 1, none⟩)) (hv : a.eval v = .int .u64 y)
    (h : ∀ x w1, x = y → Bx w1 g a0 x a2 a3 → Below B w0 w1 → (∀ k, k ≠ g → w1.heap[k]? = W.heap[k]?) → wpList Tryd.prog ops Q rest a w1) : wpList Tryd.prog ops Q (o :: rest) a W :=
  store_event hgd ho hN (st_run ho hp hv hb.k1 (hb.fz 1)) fun w1 e => h y w1 rfl (by subst e; exact ⟨bx_set hb.blk⟩) (by subst e; exact hB.setCell hg _) (by subst e; exact fun k hk => Below.heap_setCell W _ _ k hk)
theorem st2 (hgd : o.guard = none) {p : Tmp} {v : Operand} (ho : o.op = .store 22 (.tmp p) v) (hN : o.dst = none) {g : Nat} {B : Nat} {w0 : World} {y a0 a1 a2 a3 : Int} (hb : Bx W g a0 a1 a2 a3) (hB : Below B w0 W) (hg : B ≤ g)
    (hp : a.eval (.tmp p) = .pointer (some ⟨g, 2, none⟩)) (hv : a.eval v = .int .u64 y)
    (h : ∀ x w1, x = y → Bx w1 g a0 a1 x a3 → Below B w0 w1 → (∀ k, k ≠ g → w1.heap[k]? = W.heap[k]?) → wpList Tryd.prog ops Q rest a w1) : wpList Tryd.prog ops Q (o :: rest) a W :=
  store_event hgd ho hN (st_run ho hp hv hb.k2 (hb.fz 2)) fun w1 e => h y w1 rfl (by subst e; exact ⟨bx_set hb.blk⟩) (by subst e; exact hB.setCell hg _) (by subst e; exact fun k hk => Below.heap_setCell W _ _ k hk)
theorem st3 (hgd : o.guard = none) {p : Tmp} {v : Operand} (ho : o.op = .store 22 (.tmp p) v) (hN : o.dst = none) {g : Nat} {B : Nat} {w0 : World} {y a0 a1 a2 a3 : Int} (hb : Bx W g a0 a1 a2 a3) (hB : Below B w0 W) (hg : B ≤ g)
    (hp : a.eval (.tmp p) = .pointer (some ⟨g, 3, none⟩)) (hv : a.eval v = .int .u64 y)
    (h : ∀ x w1, x = y → Bx w1 g a0 a1 a2 x → Below B w0 w1 → (∀ k, k ≠ g → w1.heap[k]? = W.heap[k]?) → wpList Tryd.prog ops Q rest a w1) : wpList Tryd.prog ops Q (o :: rest) a W :=
  store_event hgd ho hN (st_run ho hp hv hb.k3 (hb.fz 3)) fun w1 e => h y w1 rfl (by subst e; exact ⟨bx_set hb.blk⟩) (by subst e; exact hB.setCell hg _) (by subst e; exact fun k hk => Below.heap_setCell W _ _ k hk)
/-- The whole array, stored. -/
theorem stA (hgd : o.guard = none) {p : Tmp} {v : Operand} (ho : o.op = .store 74 (.tmp p) v) (hN : o.dst = none) {g : Nat} {B : Nat} {w0 : World} {b0 b1 b2 b3 a0 a1 a2 a3 : Int} (hb : Bx W g a0 a1 a2 a3) (hB : Below B w0 W) (hg : B ≤ g)
    (hp : a.eval (.tmp p) = .pointer (some ⟨g, 0, none⟩)) (hv : a.eval v = .agg #[.int .u64 b0, .int .u64 b1, .int .u64 b2, .int .u64 b3])
    (h : ∀ w1, Bx w1 g b0 b1 b2 b3 → Below B w0 w1 → (∀ k, k ≠ g → w1.heap[k]? = W.heap[k]?) → wpList Tryd.prog ops Q rest a w1) : wpList Tryd.prog ops Q (o :: rest) a W := by
  have k0 := hb.k0
  have k1 := hb.k1
  have k2 := hb.k2
  have k3 := hb.k3
  have f0 := hb.fz 0
  have f1 := hb.fz 1
  have f2 := hb.fz 2
  have f3 := hb.fz 3
  have hr : (execOp a.eval o).run Tryd.prog W = .ok .skip ((((W.setCell ⟨g, 0, none⟩ (.int .u64 b0)).setCell ⟨g, 1, none⟩ (.int .u64 b1)).setCell ⟨g, 2, none⟩ (.int .u64 b2)).setCell ⟨g, 3, none⟩ (.int .u64 b3)) := by
    unfold execOp
    rw [ho]
    simp only [hp, hv]
    simp [go_sem, k0, k1, k2, k3, f0, f1, f2, f3]
  refine store_event hgd ho hN hr fun w1 e => ?_
  subst e
  exact h _ ⟨bx_set (bx_set (bx_set (bx_set hb.blk)))⟩ ((((hB.setCell hg _).setCell hg _).setCell hg _).setCell hg _) fun k hk => by rw [Below.heap_setCell _ _ _ k hk, Below.heap_setCell _ _ _ k hk, Below.heap_setCell _ _ _ k hk, Below.heap_setCell _ _ _ k hk]
end
/-- The whole array, loaded. -/
theorem Bx.load {w : World} {g : Nat} {a b c d : Int} (h : Bx w g a b c d) : (Instr.loadAt 74 (.pointer (some ⟨g, 0, none⟩))).run Tryd.prog w = .ok (.agg #[.int .u64 a, .int .u64 b, .int .u64 c, .int .u64 d]) w := by
  have k0 := h.k0
  have k1 := h.k1
  have k2 := h.k2
  have k3 := h.k3
  simp [go_sem, k0, k1, k2, k3]
end Go.Proofs.YtfhkkojdaejnjaaDoor.Gcs
