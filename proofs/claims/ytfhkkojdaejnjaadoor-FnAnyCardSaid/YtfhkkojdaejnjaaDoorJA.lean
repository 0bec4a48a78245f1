/-
  A local array of four numbers in its block: stored into, read.
  spec.stir: a round of SipHash.
  SipHash in plain words: words of eight bytes, the text filled up, the rounds.
  spec.Sip, walked.
  spec.high is the upper half of the product.
  The coded set in plain words: values in their order, their bits, the bytes.
-/
import Derived.Test.YtfhkkojdaejnjaaDoorHand
import Derived.Test.YtfhkkojdaejnjaaDoorBuf
import Derived.Test.YtfhkkojdaejnjaaDoorPFnFormsx1
set_option linter.unusedVariables false
namespace Go.Proofs.YtfhkkojdaejnjaaDoor.Gcs
open Go.RowKit Go.Proofs.YtfhkkojdaejnjaaDoor.Hand Go.Proofs.YtfhkkojdaejnjaaDoor.PFnForms Go.Proofs.YtfhkkojdaejnjaaDoorW.PrintWords Go.Proofs.YtfhkkojdaejnjaaDoorW.PrintLast Go.Proofs.YtfhkkojdaejnjaaDoorW.PrintMore

/-- The box of four numbers. -/
structure Bx (w : World) (g : Nat) (a b c d : Int) : Prop where
  blk : w.heap[g]? = some (.cells #[.int .u64 a, .int .u64 b, .int .u64 c, .int .u64 d] 74 (0, 0))
theorem Bx.k0 {w : World} {g : Nat} {a b c d : Int} (h : Bx w g a b c d) : w.cell? ⟨g, 0, none⟩ = some (.int .u64 a) := by unfold World.cell?; simp only [h.blk]; rfl
theorem Bx.k1 {w : World} {g : Nat} {a b c d : Int} (h : Bx w g a b c d) : w.cell? ⟨g, 1, none⟩ = some (.int .u64 b) := by unfold World.cell?; simp only [h.blk]; rfl
theorem Bx.k2 {w : World} {g : Nat} {a b c d : Int} (h : Bx w g a b c d) : w.cell? ⟨g, 2, none⟩ = some (.int .u64 c) := by unfold World.cell?; simp only [h.blk]; rfl
theorem Bx.k3 {w : World} {g : Nat} {a b c d : Int} (h : Bx w g a b c d) : w.cell? ⟨g, 3, none⟩ = some (.int .u64 d) := by unfold World.cell?; simp only [h.blk]; rfl
theorem Bx.fz {w : World} {g : Nat} {a b c d : Int} (h : Bx w g a b c d) (i : Nat) : w.frozen? ⟨g, i, none⟩ = false := by unfold World.frozen?; simp only [h.blk]; simp
theorem Bx.lt {w : World} {g : Nat} {a b c d : Int} (h : Bx w g a b c d) : g < w.heap.size := (Array.getElem?_eq_some_iff.1 h.blk).1
theorem Bx.below {w w1 : World} {g : Nat} {a b c d : Int} (h : Bx w g a b c d) (hb : Below w.heap.size w w1) : Bx w1 g a b c d := ⟨(hb.block g h.lt).trans h.blk⟩

theorem Bx.frame {w w1 : World} {g : Nat} {a b c d : Int} (h : Bx w g a b c d) (hb : w1.heap[g]? = w.heap[g]?) : Bx w1 g a b c d := ⟨hb.trans h.blk⟩
theorem bx_set {w : World} {g i : Nat} {cs : Array Value} {T : TypeId} {y : Value} (h : w.heap[g]? = some (.cells cs T (0, 0))) : (w.setCell ⟨g, i, none⟩ y).heap[g]? = some (.cells (cs.setIfInBounds i y) T (0, 0)) := by
  simp [World.setCell, Array.getElem?_modify, h]
section
variable {ops : Array Oper} {rest : List Oper} {o : Oper} {a : Act} {Q : Exit → Act → World → Prop} {W : World}
theorem st_run {p : Tmp} {v : Operand} (ho : o.op = .store 22 (.tmp p) v) {g i : Nat} {x z : Int} (hp : a.eval (.tmp p) = .pointer (some ⟨g, i, none⟩)) (hv : a.eval v = .int .u64 x) (hc : W.cell? ⟨g, i, none⟩ = some (.int .u64 z)) (hf : W.frozen? ⟨g, i, none⟩ = false) :
    (execOp a.eval o).run Tryd.prog W = .ok .skip (W.setCell ⟨g, i, none⟩ (.int .u64 x)) := by
  unfold execOp
  rw [ho]
  simp only [hp, hv]
  simp [go_sem, hc, hf]
theorem st0 (hgd : o.guard = none) {p : Tmp} {v : Operand} (ho : o.op = .store 22 (.tmp p) v) (hN : o.dst = none) {g : Nat} {B : Nat} {w0 : World} {y a0 a1 a2 a3 : Int} (hb : Bx W g a0 a1 a2 a3) (hB : Below B w0 W) (hg : B ≤ g)
    (hp : a.eval (.tmp p) = .pointer (some ⟨g, 0, none⟩)) (hv : a.eval v = .int .u64 y)
    (h : ∀ x w1, x = y → Bx w1 g x a1 a2 a3 → Below B w0 w1 → (∀ k, k ≠ g → w1.heap[k]? = W.heap[k]?) → wpList Tryd.prog ops Q rest a w1) : wpList Tryd.prog ops Q (o :: rest) a W :=
  store_event hgd ho hN (st_run ho hp hv hb.k0 (hb.fz 0)) fun w1 e => h y w1 rfl (by subst e; exact ⟨bx_set hb.blk⟩) (by subst e; exact hB.setCell hg _) (by subst e; exact fun k hk => Below.heap_setCell W _ _ k hk)
theorem st1 (hgd : o.guard = none) {p : Tmp} {v : Operand} (ho : o.op = .store 22 (.tmp p) v) (hN : o.dst = none) {g : Nat} {B : Nat} {w0 : World} {y a0 a1 a2 a3 : Int} (hb : Bx W g a0 a1 a2 a3) (hB : Below B w0 W) (hg : B ≤ g)
    (hp : a.eval (.tmp p) = .pointer (some ⟨g, 1, none⟩)) (hv : a.eval v = .int .u64 y)
    (h : ∀ x w1, x = y → Bx w1 g a0 x a2 a3 → Below B w0 w1 → (∀ k, k ≠ g → w1.heap[k]? = W.heap[k]?) → wpList Tryd.prog ops Q rest a w1) : wpList Tryd.prog ops Q (o :: rest) a W :=
  store_event hgd ho hN (st_run ho hp hv hb.k1 (hb.fz 1)) fun w1 e => h y w1 rfl (by subst e; exact ⟨bx_set hb.blk⟩) (by subst e; exact hB.setCell hg _) (by subst e; exact fun k hk => Below.heap_setCell W _ _ k hk)
theorem st2 (hgd : o.guard = none) {p : Tmp} {v : Operand} (ho : o.op = .store 22 (.tmp p) v) (hN : o.dst = none) {g : Nat} {B : Nat} {w0 : World} {y a0 a1 a2 a3 : Int} (hb : Bx W g a0 a1 a2 a3) (hB : Below B w0 W) (hg : B ≤ g)
    (hp : a.eval (.tmp p) = .pointer (some ⟨g, 2, none⟩)) (hv : a.eval v = .int .u64 y)
    (h : ∀ x w1, x = y → Bx w1 g a0 a1 x a3 → Below B w0 w1 → (∀ k, k ≠ g → w1.heap[k]? = W.heap[k]?) → wpList Tryd.prog ops Q rest a w1) : wpList Tryd.prog ops Q (o :: rest) a W :=
  store_event hgd ho hN (st_run ho hp hv hb.k2 (hb.fz 2)) fun w1 e => h y w1 rfl (by subst e; exact ⟨bx_set hb.blk⟩) (by subst e; exact hB.setCell hg _) (by subst e; exact fun k hk => Below.heap_setCell W _ _ k hk)
theorem st3 (hgd : o.guard = none) {p : Tmp} {v : Operand} (ho : o.op = .store 22 (.tmp p) v) (hN : o.dst = none) {g : Nat} {B : Nat} {w0 : World} {y a0 a1 a2 a3 : Int} (hb : Bx W g a0 a1 a2 a3) (hB : Below B w0 W) (hg : B ≤ g)
    (hp : a.eval (.tmp p) = .pointer (some ⟨g, 3, none⟩)) (hv : a.eval v = .int .u64 y)
    (h : ∀ x w1, x = y → Bx w1 g a0 a1 a2 x → Below B w0 w1 → (∀ k, k ≠ g → w1.heap[k]? = W.heap[k]?) → wpList Tryd.prog ops Q rest a w1) : wpList Tryd.prog ops Q (o :: rest) a W :=
  store_event hgd ho hN (st_run ho hp hv hb.k3 (hb.fz 3)) fun w1 e => h y w1 rfl (by subst e; exact ⟨bx_set hb.blk⟩) (by subst e; exact hB.setCell hg _) (by subst e; exact fun k hk => Below.heap_setCell W _ _ k hk)
/-- The whole array, stored. -/
theorem stA (hgd : o.guard = none) {p : Tmp} {v : Operand} (ho : o.op = .store 74 (.tmp p) v) (hN : o.dst = none) {g : Nat} {B : Nat} {w0 : World} {b0 b1 b2 b3 a0 a1 a2 a3 : Int} (hb : Bx W g a0 a1 a2 a3) (hB : Below B w0 W) (hg : B ≤ g)
    (hp : a.eval (.tmp p) = .pointer (some ⟨g, 0, none⟩)) (hv : a.eval v = .agg #[.int .u64 b0, .int .u64 b1, .int .u64 b2, .int .u64 b3])
    (h : ∀ w1, Bx w1 g b0 b1 b2 b3 → Below B w0 w1 → (∀ k, k ≠ g → w1.heap[k]? = W.heap[k]?) → wpList Tryd.prog ops Q rest a w1) : wpList Tryd.prog ops Q (o :: rest) a W := by
  have k0 := hb.k0
  have k1 := hb.k1
  have k2 := hb.k2
  have k3 := hb.k3
  have f0 := hb.fz 0
  have f1 := hb.fz 1
  have f2 := hb.fz 2
  have f3 := hb.fz 3
  have hr : (execOp a.eval o).run Tryd.prog W = .ok .skip ((((W.setCell ⟨g, 0, none⟩ (.int .u64 b0)).setCell ⟨g, 1, none⟩ (.int .u64 b1)).setCell ⟨g, 2, none⟩ (.int .u64 b2)).setCell ⟨g, 3, none⟩ (.int .u64 b3)) := by
    unfold execOp
    rw [ho]
    simp only [hp, hv]
    simp [go_sem, k0, k1, k2, k3, f0, f1, f2, f3]
  refine store_event hgd ho hN hr fun w1 e => ?_
  subst e
  exact h _ ⟨bx_set (bx_set (bx_set (bx_set hb.blk)))⟩ ((((hB.setCell hg _).setCell hg _).setCell hg _).setCell hg _) fun k hk => by rw [Below.heap_setCell _ _ _ k hk, Below.heap_setCell _ _ _ k hk, Below.heap_setCell _ _ _ k hk, Below.heap_setCell _ _ _ k hk]
end
/-- The whole array, loaded. -/
theorem Bx.load {w : World} {g : Nat} {a b c d : Int} (h : Bx w g a b c d) : (Instr.loadAt 74 (.pointer (some ⟨g, 0, none⟩))).run Tryd.prog w = .ok (.agg #[.int .u64 a, .int .u64 b, .int .u64 c, .int .u64 d]) w := by
  have k0 := h.k0
  have k1 := h.k1
  have k2 := h.k2
  have k3 := h.k3
  simp [go_sem, k0, k1, k2, k3]
end Go.Proofs.YtfhkkojdaejnjaaDoor.Gcs
namespace Go.Proofs.YtfhkkojdaejnjaaDoor.Gcs
open Go.RowKit Go.Proofs.YtfhkkojdaejnjaaDoor.Hand Go.Proofs.YtfhkkojdaejnjaaDoor.PFnForms Go.Proofs.YtfhkkojdaejnjaaDoorW.PrintWords Go.Proofs.YtfhkkojdaejnjaaDoorW.PrintLast Go.Proofs.YtfhkkojdaejnjaaDoorW.PrintMore

abbrev N4 := Int × Int × Int × Int
def rotl (k : Nat) (x : Int) : Int := Go.bits .or .u64 (IntKind.u64.wrap (x * 2 ^ k)) (x / 2 ^ (64 - k))
def stir (v : N4) : N4 :=
  let a := v.1; let b := v.2.1; let c := v.2.2.1; let d := v.2.2.2
  let a1 := IntKind.u64.wrap (a + b); let c1 := IntKind.u64.wrap (c + d)
  let b1 := rotl 13 b; let d1 := rotl 16 d
  let b2 := Go.bits .xor .u64 b1 a1; let d2 := Go.bits .xor .u64 d1 c1
  let a2 := rotl 32 a1
  let c2 := IntKind.u64.wrap (c1 + b2); let a3 := IntKind.u64.wrap (a2 + d2)
  let b3 := rotl 17 b2; let d3 := rotl 21 d2
  let b4 := Go.bits .xor .u64 b3 c2; let d4 := Go.bits .xor .u64 d3 a3
  let c3 := rotl 32 c2
  (a3, b4, c3, d4)
def v4 (v : N4) : Value := .agg #[.int .u64 v.1, .int .u64 v.2.1, .int .u64 v.2.2.1, .int .u64 v.2.2.2]
def IsStir (w : World) (r : N4) (e : Ending) (w' : World) : Prop := e = .returned (v4 r) ∧ Below w.heap.size w w'

set_option maxRecDepth 100000 in
set_option maxHeartbeats 16000000 in
theorem stir_calls (a b c d : Int) (w : World) : Calls Tryd.prog 41 #[.agg #[.int .u64 a, .int .u64 b, .int .u64 c, .int .u64 d]] w (IsStir w (stir (a, b, c, d))) := by
  have HB := Aside0.mk (Below.refl w.heap.size w)
  go_enter Tryd.func41, Tryd.ntmps41
  go_wp2_with (first
    | ((with_reducible refine gate_dst (N := 1) rfl ?_); refine box_event ?hg (N := 1) ?hd (cs := #[.int .u64 a, .int .u64 b, .int .u64 c, .int .u64 d]) (t := 74) ?hr ?_; (case hd => rfl); (case hg => rfl); (case hr => first | (go_simp; done) | (go_simp; rfl)); intro g hg w1 hbox hb1; have HX := Aside0.mk (Bx.mk hbox); have HB1 := Aside0.mk (below_step HB.out hb1); have HG : Aside0 (w.heap.size ≤ g) := ⟨by rw [hg]; exact Nat.le_refl _⟩; clear hg hbox hb1)
    | ((with_reducible refine gate_dst (N := 2) rfl ?_); refine box_event ?hg (N := 2) ?hd (cs := #[.int .u64 0, .int .u64 0, .int .u64 0, .int .u64 0]) (t := 74) ?hr ?_; (case hd => rfl); (case hg => rfl); (case hr => first | (go_simp; done) | (go_simp; rfl)); intro g2 hg w2 hbox hb2; have HX0 := Aside0.mk (HX.out.below hb2); have HZ := Aside0.mk (Bx.mk hbox); have HB0 := Aside0.mk (below_step HB1.out hb2); have HG2 : Aside0 (w.heap.size ≤ g2) := ⟨by rw [hg]; exact HB1.out.size⟩; have HNE : Aside0 (g2 ≠ g) := ⟨by have := HX.out.lt; omega⟩; have k0 := HX0.out.k0; have k1 := HX0.out.k1; have k2 := HX0.out.k2; have k3 := HX0.out.k3; clear hg hbox hb2)
    | ((with_reducible refine gate_store (t := 22) (p := 13) rfl ?_); refine st0 rfl rfl rfl HX0.out HB0.out HG.out rfl rfl ?_; intro x0 w10 hx0 hX hB hK; have HZa0 := Aside0.mk (Bx.frame HZ.out (hK _ HNE.out)); have HXa0 := Aside0.mk hX; have HBa0 := Aside0.mk hB; clear k0 k1 k2 k3 hX hB hK; have k0 := HXa0.out.k0; have k1 := HXa0.out.k1; have k2 := HXa0.out.k2; have k3 := HXa0.out.k3; have HP0 := Aside0.mk hx0; clear hx0)
    | ((with_reducible refine gate_store (t := 22) (p := 14) rfl ?_); refine st2 rfl rfl rfl HXa0.out HBa0.out HG.out rfl rfl ?_; intro x1 w11 hx1 hX hB hK; have HZa1 := Aside0.mk (Bx.frame HZa0.out (hK _ HNE.out)); have HXa1 := Aside0.mk hX; have HBa1 := Aside0.mk hB; clear k0 k1 k2 k3 hX hB hK; have k0 := HXa1.out.k0; have k1 := HXa1.out.k1; have k2 := HXa1.out.k2; have k3 := HXa1.out.k3; have HP1 := Aside0.mk hx1; clear hx1)
    | ((with_reducible refine gate_store (t := 22) (p := 29) rfl ?_); refine st1 rfl rfl rfl HXa1.out HBa1.out HG.out rfl rfl ?_; intro x2 w12 hx2 hX hB hK; have HZa2 := Aside0.mk (Bx.frame HZa1.out (hK _ HNE.out)); have HXa2 := Aside0.mk hX; have HBa2 := Aside0.mk hB; clear k0 k1 k2 k3 hX hB hK; have k0 := HXa2.out.k0; have k1 := HXa2.out.k1; have k2 := HXa2.out.k2; have k3 := HXa2.out.k3; have HP2 := Aside0.mk hx2; clear hx2)
    | ((with_reducible refine gate_store (t := 22) (p := 30) rfl ?_); refine st3 rfl rfl rfl HXa2.out HBa2.out HG.out rfl rfl ?_; intro x3 w13 hx3 hX hB hK; have HZa3 := Aside0.mk (Bx.frame HZa2.out (hK _ HNE.out)); have HXa3 := Aside0.mk hX; have HBa3 := Aside0.mk hB; clear k0 k1 k2 k3 hX hB hK; have k0 := HXa3.out.k0; have k1 := HXa3.out.k1; have k2 := HXa3.out.k2; have k3 := HXa3.out.k3; have HP3 := Aside0.mk hx3; clear hx3)
    | ((with_reducible refine gate_store (t := 22) (p := 41) rfl ?_); refine st1 rfl rfl rfl HXa3.out HBa3.out HG.out rfl rfl ?_; intro x4 w14 hx4 hX hB hK; have HZa4 := Aside0.mk (Bx.frame HZa3.out (hK _ HNE.out)); have HXa4 := Aside0.mk hX; have HBa4 := Aside0.mk hB; clear k0 k1 k2 k3 hX hB hK; have k0 := HXa4.out.k0; have k1 := HXa4.out.k1; have k2 := HXa4.out.k2; have k3 := HXa4.out.k3; have HP4 := Aside0.mk hx4; clear hx4)
    | ((with_reducible refine gate_store (t := 22) (p := 42) rfl ?_); refine st3 rfl rfl rfl HXa4.out HBa4.out HG.out rfl rfl ?_; intro x5 w15 hx5 hX hB hK; have HZa5 := Aside0.mk (Bx.frame HZa4.out (hK _ HNE.out)); have HXa5 := Aside0.mk hX; have HBa5 := Aside0.mk hB; clear k0 k1 k2 k3 hX hB hK; have k0 := HXa5.out.k0; have k1 := HXa5.out.k1; have k2 := HXa5.out.k2; have k3 := HXa5.out.k3; have HP5 := Aside0.mk hx5; clear hx5)
    | ((with_reducible refine gate_store (t := 22) (p := 50) rfl ?_); refine st0 rfl rfl rfl HXa5.out HBa5.out HG.out rfl rfl ?_; intro x6 w16 hx6 hX hB hK; have HZa6 := Aside0.mk (Bx.frame HZa5.out (hK _ HNE.out)); have HXa6 := Aside0.mk hX; have HBa6 := Aside0.mk hB; clear k0 k1 k2 k3 hX hB hK; have k0 := HXa6.out.k0; have k1 := HXa6.out.k1; have k2 := HXa6.out.k2; have k3 := HXa6.out.k3; have HP6 := Aside0.mk hx6; clear hx6)
    | ((with_reducible refine gate_store (t := 22) (p := 61) rfl ?_); refine st2 rfl rfl rfl HXa6.out HBa6.out HG.out rfl rfl ?_; intro x7 w17 hx7 hX hB hK; have HZa7 := Aside0.mk (Bx.frame HZa6.out (hK _ HNE.out)); have HXa7 := Aside0.mk hX; have HBa7 := Aside0.mk hB; clear k0 k1 k2 k3 hX hB hK; have k0 := HXa7.out.k0; have k1 := HXa7.out.k1; have k2 := HXa7.out.k2; have k3 := HXa7.out.k3; have HP7 := Aside0.mk hx7; clear hx7)
    | ((with_reducible refine gate_store (t := 22) (p := 62) rfl ?_); refine st0 rfl rfl rfl HXa7.out HBa7.out HG.out rfl rfl ?_; intro x8 w18 hx8 hX hB hK; have HZa8 := Aside0.mk (Bx.frame HZa7.out (hK _ HNE.out)); have HXa8 := Aside0.mk hX; have HBa8 := Aside0.mk hB; clear k0 k1 k2 k3 hX hB hK; have k0 := HXa8.out.k0; have k1 := HXa8.out.k1; have k2 := HXa8.out.k2; have k3 := HXa8.out.k3; have HP8 := Aside0.mk hx8; clear hx8)
    | ((with_reducible refine gate_store (t := 22) (p := 77) rfl ?_); refine st1 rfl rfl rfl HXa8.out HBa8.out HG.out rfl rfl ?_; intro x9 w19 hx9 hX hB hK; have HZa9 := Aside0.mk (Bx.frame HZa8.out (hK _ HNE.out)); have HXa9 := Aside0.mk hX; have HBa9 := Aside0.mk hB; clear k0 k1 k2 k3 hX hB hK; have k0 := HXa9.out.k0; have k1 := HXa9.out.k1; have k2 := HXa9.out.k2; have k3 := HXa9.out.k3; have HP9 := Aside0.mk hx9; clear hx9)
    | ((with_reducible refine gate_store (t := 22) (p := 78) rfl ?_); refine st3 rfl rfl rfl HXa9.out HBa9.out HG.out rfl rfl ?_; intro x10 w110 hx10 hX hB hK; have HZa10 := Aside0.mk (Bx.frame HZa9.out (hK _ HNE.out)); have HXa10 := Aside0.mk hX; have HBa10 := Aside0.mk hB; clear k0 k1 k2 k3 hX hB hK; have k0 := HXa10.out.k0; have k1 := HXa10.out.k1; have k2 := HXa10.out.k2; have k3 := HXa10.out.k3; have HP10 := Aside0.mk hx10; clear hx10)
    | ((with_reducible refine gate_store (t := 22) (p := 89) rfl ?_); refine st1 rfl rfl rfl HXa10.out HBa10.out HG.out rfl rfl ?_; intro x11 w111 hx11 hX hB hK; have HZa11 := Aside0.mk (Bx.frame HZa10.out (hK _ HNE.out)); have HXa11 := Aside0.mk hX; have HBa11 := Aside0.mk hB; clear k0 k1 k2 k3 hX hB hK; have k0 := HXa11.out.k0; have k1 := HXa11.out.k1; have k2 := HXa11.out.k2; have k3 := HXa11.out.k3; have HP11 := Aside0.mk hx11; clear hx11)
    | ((with_reducible refine gate_store (t := 22) (p := 90) rfl ?_); refine st3 rfl rfl rfl HXa11.out HBa11.out HG.out rfl rfl ?_; intro x12 w112 hx12 hX hB hK; have HZa12 := Aside0.mk (Bx.frame HZa11.out (hK _ HNE.out)); have HXa12 := Aside0.mk hX; have HBa12 := Aside0.mk hB; clear k0 k1 k2 k3 hX hB hK; have k0 := HXa12.out.k0; have k1 := HXa12.out.k1; have k2 := HXa12.out.k2; have k3 := HXa12.out.k3; have HP12 := Aside0.mk hx12; clear hx12)
    | ((with_reducible refine gate_store (t := 22) (p := 98) rfl ?_); refine st2 rfl rfl rfl HXa12.out HBa12.out HG.out rfl rfl ?_; intro x13 w113 hx13 hX hB hK; have HZa13 := Aside0.mk (Bx.frame HZa12.out (hK _ HNE.out)); have HXa13 := Aside0.mk hX; have HBa13 := Aside0.mk hB; clear k0 k1 k2 k3 hX hB hK; have k0 := HXa13.out.k0; have k1 := HXa13.out.k1; have k2 := HXa13.out.k2; have k3 := HXa13.out.k3; have HP13 := Aside0.mk hx13; clear hx13)
    | ((with_reducible refine gate_store (t := 74) (p := 2) rfl ?_); refine stA rfl rfl rfl HZa13.out HBa13.out HG2.out rfl rfl ?_; intro wz hX hB hK; have HXZ := Aside0.mk hX; have HBZ := Aside0.mk hB; clear k0 k1 k2 k3 hX hB hK; have k0 := HXZ.out.k0; have k1 := HXZ.out.k1; have k2 := HXZ.out.k2; have k3 := HXZ.out.k3)
    | fail)
  refine bodyPost_ret (v := .agg #[.int .u64 x8, .int .u64 x11, .int .u64 x13, .int .u64 x12]) (by simp [results, Tryd.results41, go_sem, k0, k1, k2, k3]) rfl ⟨?_, HBZ.out⟩
  have e13 := HP13.out
  have e12 := HP12.out
  have e11 := HP11.out
  have e10 := HP10.out
  have e9 := HP9.out
  have e8 := HP8.out
  have e7 := HP7.out
  have e6 := HP6.out
  have e5 := HP5.out
  have e4 := HP4.out
  have e3 := HP3.out
  have e2 := HP2.out
  have e1 := HP1.out
  have e0 := HP0.out
  subst e13 e12 e11 e10 e9 e8 e7 e6 e5 e4 e3 e2 e1 e0
  rfl
end Go.Proofs.YtfhkkojdaejnjaaDoor.Gcs
namespace Go.Proofs.YtfhkkojdaejnjaaDoor.Gcs
open Go.RowKit Go.Proofs.YtfhkkojdaejnjaaDoor.Hand Go.Proofs.YtfhkkojdaejnjaaDoor.PFnForms Go.Proofs.YtfhkkojdaejnjaaDoorW.PrintWords Go.Proofs.YtfhkkojdaejnjaaDoorW.PrintLast Go.Proofs.YtfhkkojdaejnjaaDoorW.PrintMore

theorem info5 : (Tryd.prog.info? 5).map (fun i => (i.zero, i.size, i.bytes)) = some (some (.int .u8 0), 1, 1) := by kernel_rfl
theorem u64r (op : BinOp) (a b : Int) : 0 ≤ Go.bits op .u64 a b ∧ Go.bits op .u64 a b < 18446744073709551616 := ⟨bits_lo_u64 op a b, by have := bits_hi_u64 op a b; omega⟩
def wstep (x b : Int) : Int := Go.bits .or .u64 (IntKind.u64.wrap (x * 256)) (IntKind.u64.wrap b)
/-- Eight bytes as a number, the lowest first. -/
def wordP (l : List Int) : Int := (l.take 8).foldr (fun b x => wstep x b) 0
theorem word_f (l : List Int) (h : l.length = 8) : spec_word.f 9 l = some (wordP l) := by
  match l, h with
  | [a, b, c, d, e, f, g, i], _ => simp [spec_word.f, spec_word.l0, rd, wrap64, wordP, wstep]
theorem word_lo (l : List Int) : 0 ≤ wordP l ∧ wordP l < 18446744073709551616 := by
  unfold wordP
  cases l.take 8 with
  | nil => simp
  | cons b t =>
    rw [List.foldr_cons]
    generalize List.foldr (fun b x => wstep x b) 0 t = y
    unfold wstep
    exact u64r _ _ _
theorem word_any (A : Option Addr) (c : Nat) (l : List Int) (w : World) (h : l.length = 8) (hC : Kd.C (Kd.int .u8) w A 8 l) (hc : 8 ≤ c) :
    Calls Tryd.prog 40 #[.slice A 8 c] w fun e w' => e = .returned (.int .u64 (wordP l)) ∧ ∃ n, w' = w.drewN n := by
  rw [← h] at hC hc ⊢
  exact (spec_word.calls 9 A c l (wordP l) w hC hc (word_f l h)).mono fun e w' ⟨a, b⟩ => ⟨a, b.out⟩

/-- The text filled up: zeros, the length's last byte. -/
def padded (b : List Int) : List Int := b ++ List.replicate (7 - b.length % 8) 0 ++ [IntKind.u8.wrap b.length]
theorem padded_length (b : List Int) : (padded b).length = (b.length / 8 + 1) * 8 := by
  unfold padded
  simp only [List.length_append, List.length_replicate, List.length_singleton]
  omega
def sstep (v : N4) (m : Int) : N4 :=
  let u := stir (stir (v.1, v.2.1, v.2.2.1, Go.bits .xor .u64 v.2.2.2 m))
  (Go.bits .xor .u64 u.1 m, u.2.1, u.2.2.1, u.2.2.2)
/-- The first so many words of a text. -/
def run8 (v : N4) (t : List Int) : Nat → N4
  | 0 => v
  | n + 1 => sstep (run8 v t n) (wordP (t.drop (8 * n)))
def start4 (key : List Int) : N4 := (Go.bits .xor .u64 (wordP key) 8317987319222330741, Go.bits .xor .u64 (wordP (key.drop 8)) 7237128888997146477, Go.bits .xor .u64 (wordP key) 7816392313619706465, Go.bits .xor .u64 (wordP (key.drop 8)) 8387220255154660723)
def xor4 (u : N4) : Int := Go.bits .xor .u64 (Go.bits .xor .u64 (Go.bits .xor .u64 u.1 u.2.1) u.2.2.1) u.2.2.2
def ending4 (v : N4) : Int := xor4 (stir (stir (stir (stir (v.1, v.2.1, Go.bits .xor .u64 v.2.2.1 255, v.2.2.2)))))
def sipP (key b : List Int) : Int := ending4 (run8 (start4 key) (padded b) (b.length / 8 + 1))
theorem sip_lo (key b : List Int) : 0 ≤ sipP key b ∧ sipP key b < 18446744073709551616 := by
  unfold sipP ending4
  generalize stir _ = u
  unfold xor4
  exact u64r _ _ _
end Go.Proofs.YtfhkkojdaejnjaaDoor.Gcs
namespace Go.Proofs.YtfhkkojdaejnjaaDoor.Gcs
open Go.RowKit Go.Proofs.YtfhkkojdaejnjaaDoor.Hand Go.Proofs.YtfhkkojdaejnjaaDoor.PFnForms Go.Proofs.YtfhkkojdaejnjaaDoorW.PrintWords Go.Proofs.YtfhkkojdaejnjaaDoorW.PrintLast Go.Proofs.YtfhkkojdaejnjaaDoorW.PrintMore

/-- A text that is read, all in one block. -/
structure Txt (w : World) (g : Nat) (A : Option Addr) (T : List Int) : Prop where
  C : Kd.C (Kd.int .u8) w A T.length T
  blk : ∀ ad, A = some ad → ad.block = g
  lt : g < w.heap.size
theorem cell_of_heap {w w1 : World} {p : Addr} (h : w1.heap[p.block]? = w.heap[p.block]?) : w1.cell? p = w.cell? p := by unfold World.cell?; simp only [h]
theorem addr_add_block (ad : Addr) (n : Nat) : (ad.add n).block = ad.block := by unfold Addr.add; split <;> rfl
theorem Txt.frame {w w1 : World} {g : Nat} {A : Option Addr} {T : List Int} (h : Txt w g A T) (hb : w1.heap[g]? = w.heap[g]?) : Txt w1 g A T := by
  refine ⟨⟨h.C.1, h.C.2.1, fun hp => ?_⟩, h.blk, by rw [Array.getElem?_eq_getElem h.lt] at hb; exact (Array.getElem?_eq_some_iff.1 hb).1⟩
  obtain ⟨ad, e, hc⟩ := h.C.2.2 hp
  refine ⟨ad, e, fun j p hj => ?_⟩
  obtain ⟨cs, c1, c2, c3⟩ := hc j p hj
  exact ⟨cs, c1, c2, fun i u hu => (cell_of_heap (by rw [addr_add_block, h.blk ad e]; exact hb)).trans (c3 i u hu)⟩
theorem Txt.drop {w : World} {g m c : Nat} {A : Option Addr} {T : List Int} (h : Txt w g A T) (hm : m ≤ T.length) (hc : T.length ≤ c) : Txt w g (if c = m then A else A.map (·.add (m * 1))) (T.drop m) := by
  refine ⟨Kd.C_drop (k := Kd.int .u8) h.C hm hc, fun ad e => ?_, h.lt⟩
  by_cases hcm : c = m
  · rw [if_pos hcm] at e; exact h.blk ad e
  · rw [if_neg hcm] at e
    obtain ⟨a0, e0, rfl⟩ := Option.map_eq_some_iff.1 e
    rw [addr_add_block]
    exact h.blk a0 e0
theorem txt_of_R {w : World} {base : Nat} {ok : Nat → Prop} {A : Option Addr} {n c : Nat} {T : List Int} (h : (Kd.int .u8).R 5 w base ok (.slice A n c) T) (hp : 0 < T.length) : ∃ g, Txt w g A T ∧ base ≤ g ∧ g < w.heap.size ∧ (Value.slice A n c).ownBlock = some g := by
  obtain ⟨hn, _, hC⟩ := Kd.R_reads' h
  subst hn
  have ho := Kd.own_of_R h
  rcases ho.2 with ⟨_, h0⟩ | ⟨g, cap, cur, e1, h2, h3, _⟩
  · omega
  · injection e1 with e1 e2 e3
    subst e1
    exact ⟨g, ⟨hC, fun ad e => by injection e with e; rw [← e], (Array.getElem?_eq_some_iff.1 h3).1⟩, h2, (Array.getElem?_eq_some_iff.1 h3).1, rfl⟩
def lenV : Value → Nat
  | .slice _ n _ => n
  | _ => 0
/-- Nothing but one block turned. -/
structure Fr1 (g : Nat) (w w' : World) : Prop where
  size : w.heap.size ≤ w'.heap.size
  blk : ∀ k, k < w.heap.size → k ≠ g → w'.heap[k]? = w.heap[k]?
theorem Fr1.refl (g : Nat) (w : World) : Fr1 g w w := ⟨Nat.le_refl _, fun _ _ _ => rfl⟩
theorem Fr1.trans {g : Nat} {w w1 w2 : World} (h : Fr1 g w w1) (h2 : Fr1 g w1 w2) : Fr1 g w w2 := ⟨Nat.le_trans h.size h2.size, fun k hk hn => (h2.blk k (Nat.lt_of_lt_of_le hk h.size) hn).trans (h.blk k hk hn)⟩
theorem Fr1.of_below {g : Nat} {w w1 : World} (h : Below w.heap.size w w1) : Fr1 g w w1 := ⟨h.size, fun k hk _ => h.block k hk⟩
theorem Fr1.of_store {g : Nat} {w w1 : World} {B : Nat} {w0 : World} (h : ∀ k, k ≠ g → w1.heap[k]? = w.heap[k]?) (hs : w.heap.size ≤ w1.heap.size) : Fr1 g w w1 := ⟨hs, fun k _ hn => h k hn⟩

def IsU64 (w : World) (r : Int) (e : Ending) (w' : World) : Prop := e = .returned (.int .u64 r) ∧ Below w.heap.size w w'

theorem stir4 (v : N4) (w : World) : Calls Tryd.prog 41 #[v4 v] w (IsStir w (stir v)) := stir_calls v.1 v.2.1 v.2.2.1 v.2.2.2 w
theorem tmod8 (m : Nat) : Int.tmod (m : Int) 8 = ((m % 8 : Nat) : Int) := by rw [Int.tmod_eq_emod_of_nonneg (by omega)]; omega
abbrev BxV (w : World) (g : Nat) (v : N4) : Prop := Bx w g v.1 v.2.1 v.2.2.1 v.2.2.2

set_option maxRecDepth 100000 in
set_option maxHeartbeats 16000000 in
theorem sip_calls (ks : List Int) (A : Option Addr) (n c : Nat) (b : List Int) (w : World) (hk : ks.length = 16) (hC : Kd.C (Kd.int .u8) w A n b) (hn : b.length = n) (hc : n ≤ c) (hs : n ≤ 1000) :
    Calls Tryd.prog 22 #[.agg (ks.map (Value.int .u8)).toArray, .slice A n c] w (IsU64 w (sipP ks b)) := by
  obtain ⟨X, hX⟩ : ∃ X, X = (ks.map (Value.int .u8)).toArray := ⟨_, rfl⟩
  rw [← hX]
  have hXs : X.size = 16 := by rw [hX]; simp [hk]
  have HX := Aside0.mk hX
  have HK := Aside0.mk hk
  have HC := Aside0.mk hC
  have HN := Aside0.mk hn
  clear hX hk hC hn
  have HB := Aside0.mk (Below.refl w.heap.size w)
  go_enter Tryd.func22, Tryd.ntmps22
  go_wp2_with (first
    | ((with_reducible refine gate_dst (N := 2) rfl ?_); refine box_event ?hg (N := 2) ?hd (cs := X) (t := 23) ?hr ?_; (case hd => rfl); (case hg => rfl); (case hr => first | (go_simp; done) | (go_simp; rfl)); intro gk hg w1 hbox hb1; have HKB := Aside0.mk hbox; have HB1 := Aside0.mk (below_step HB.out hb1); have HGK : Aside0 (w.heap.size ≤ gk) := ⟨by rw [hg]; exact Nat.le_refl _⟩; clear hg hbox hb1)
    | fail)
  have HKC : Aside0 (Kd.C (Kd.int .u8) w1 (some ⟨gk, 0, none⟩) ks.length ks) := ⟨C_of_block (e := 23) (fr := (0, 0)) (by rw [← HX.out]; exact HKB.out) (by rw [HK.out]; omega)⟩
  have HQ1 : Aside0 (∀ m, Calls Tryd.prog 40 #[.slice (some ⟨gk, 0, none⟩) 8 16] (w1.drewN m) fun e w'' => e = .returned (.int .u64 (wordP ks)) ∧ ∃ q, w'' = w1.drewN q) := ⟨fun m => by
    have h1 := Kd.C_take (k := Kd.int .u8) HKC.out (m := 8) (by rw [HK.out]; omega)
    have hl : (ks.take 8).length = 8 := by rw [List.length_take, HK.out]; rfl
    rw [hl] at h1
    have h2 := word_any (some ⟨gk, 0, none⟩) 16 (ks.take 8) (w1.drewN m) hl (Kd.C_drewN h1 m) (by omega)
    rw [show wordP (ks.take 8) = wordP ks by unfold wordP; rw [List.take_take]; rfl] at h2
    exact Calls.quiet_of h2⟩
  have HQ2 : Aside0 (∀ m, Calls Tryd.prog 40 #[.slice (some ⟨gk, 8, none⟩) 8 8] (w1.drewN m) fun e w'' => e = .returned (.int .u64 (wordP (ks.drop 8))) ∧ ∃ q, w'' = w1.drewN q) := ⟨fun m => by
    have h1 := Kd.C_drop (k := Kd.int .u8) HKC.out (m := 8) (c := 16) (by rw [HK.out]; omega) (by rw [HK.out]; omega)
    have hl : (ks.drop 8).length = 8 := by rw [List.length_drop, HK.out]
    rw [hl] at h1
    exact Calls.quiet_of (word_any (some ⟨gk, 8, none⟩) 8 (ks.drop 8) (w1.drewN m) hl (Kd.C_drewN h1 m) (by omega))⟩
  go_quiet (first | (with_reducible exact HQ1.out _) | (with_reducible exact HQ2.out _))
  have HB2 : Aside0 (Below w.heap.size w (w1.drewN nq)) := ⟨by repeat (first | (with_reducible exact HB1.out) | apply pw_below_drewN)⟩
  generalize w1.drewN nq = w2 at HB2 ⊢
  clear HQ1 HQ2 HKC HKB HB1 HB
  go_wp2_with (first
    | ((with_reducible refine gate_dst (N := 7) rfl ?_); refine box_event ?hg (N := 7) ?hd (cs := #[.int .u64 0, .int .u64 0, .int .u64 0, .int .u64 0]) (t := 74) ?hr ?_; (case hd => rfl); (case hg => rfl); (case hr => first | (go_simp; done) | (go_simp; rfl)); intro gx hg w3 hbox hb3; have HZ := Aside0.mk (Bx.mk hbox); have HB3 := Aside0.mk (below_step HB2.out hb3); have HG : Aside0 (w.heap.size ≤ gx) := ⟨by rw [hg]; exact HB2.out.size⟩; clear hg hbox hb3)
    | ((with_reducible refine gate_store (t := 74) (p := 7) rfl ?_); refine stA rfl rfl rfl HZ.out HB3.out HG.out rfl rfl ?_; intro w4 hX hB hK; have HX4 := Aside0.mk hX; have HB4 := Aside0.mk hB; clear hX hB hK)
    | ((with_reducible refine gate_dst (N := 23) rfl ?_); refine Kd.R_lit (Kd.int .u8) (w0 := w) w.heap.size 5 ?hg (N := 23) ?hd (xs := ([] : List Int)) (inner := []) (ok := fun _ => True) (okp := fun _ => True) ?hr ?hp (fun _ hk => hk) trivial HB4.out HB4.out.size (by simp) ?_; (case hd => rfl); (case hg => rfl); (case hr => first | (go_simp; done) | (go_simp; rfl)); (case hp => exact (Reps.none _ _)); intro v23 w5 ho hb hgr hnew; have HX5 := Aside0.mk (HX4.out.frame (hgr.block _ HX4.out.lt (by simp))); have HO5 := Aside0.mk ho; have HB5 := Aside0.mk hb; have HN5 : Aside0 (v23.ownBlock ≠ some gx) := ⟨by obtain ⟨bb, e, hbb⟩ := hnew; have := HX4.out.lt; rw [e]; intro h; injection h with h; omega⟩; clear ho hb hgr hnew)
    | ((with_reducible refine gate_builtin (b := .append) (xs := #[.tmp 23, .tmp 24]) rfl ?_); refine Kd.R_append_row (h1 := fun _ => rfl) (w0 := w) (Value.int .u8) (0 : Int) w.heap.size rfl _ _ 29 5 (.int .u8 0) 1 rfl Tryd.underlying29 info5 rfl (by decide) v23 [] b A n c (fun _ => True) rfl rfl (fun _ _ => trivial) HO5.out (Kd.C_below HC.out HB5.out) HB5.out HB5.out.size (by simp; omega) ?_; intro v25 w6 hR hb6 hgr hat; rw [List.nil_append] at hR; have HX6 := Aside0.mk (HX5.out.frame (hgr.block _ HX5.out.lt (Ne.symm HN5.out))); have HN6 : Aside0 (v25.ownBlock ≠ some gx) := ⟨by rcases hat with e | ⟨bb, e, hbb⟩; (rw [e]; exact HN5.out); (have := HX5.out.lt; rw [e]; intro h; injection h with h; omega)⟩; have HR6 := Aside0.mk hR; have HB6 := Aside0.mk hb6; clear hR hb6 hgr hat)
    | fail)
  have HX6a : Aside0 (BxV w6 gx (start4 ks)) := ⟨HX6.out⟩
  obtain ⟨V, hV⟩ : ∃ V, V = start4 ks := ⟨_, rfl⟩
  rw [← hV] at HX6a
  have HVV := Aside0.mk hV
  clear hV HX6 HX5 HX4 HZ HO5 HN5 HB5 HB4 HB3 HB2 HGK
  have HR60 : Aside0 ((Kd.int .u8).R 5 w6 w.heap.size (fun _ => True) v25 (b ++ List.replicate 0 0)) := ⟨by rw [List.replicate_zero, List.append_nil]; exact HR6.out⟩
  have hl0 : lenV v25 = n + 0 := by obtain ⟨A1, c1, e⟩ := Kd.R_slice HR60.out; rw [e]; simp [lenV, HN.out]
  go_loopw [8] (fun v8 wr => ∃ k : Nat, k ≤ 7 - n % 8 ∧ lenV v8 = n + k ∧ Aside0 ((Kd.int .u8).R 5 wr w.heap.size (fun _ => True) v8 (b ++ List.replicate k 0)) ∧ Aside0 (BxV wr gx V) ∧ Aside0 (v8.ownBlock ≠ some gx) ∧ Aside0 (Below w.heap.size w wr)) (fun v8 _ => 2000 - lenV v8)
  case atStart => exact ⟨0, Nat.zero_le _, hl0, HR60, HX6a, HN6, HB6⟩
  case round =>
    obtain ⟨k, hk, hlv, HR, HX1, HNE, HBr⟩ := hrel
    clear HR60 HX6a HN6 HB6 HR6 hl0
    obtain ⟨A1, c1, e⟩ := Kd.R_slice HR.out
    subst e
    have HLN : Aside0 ((b ++ List.replicate k (0 : Int)).length = n + k) := ⟨by rw [List.length_append, List.length_replicate, HN.out]⟩
    rw [HLN.out] at HR HNE hlv ⊢
    obtain ⟨m, hm⟩ : ∃ m, m = n + k := ⟨_, rfl⟩
    have HM := Aside0.mk hm
    rw [← hm] at HR HNE hlv ⊢
    have ht := tmod8 m
    by_cases hk7 : k < 7 - n % 8
    · have hne : ((m % 8 : Nat) : Int) ≠ 7 := by omega
      have hm2 : m ≤ 1100 := by omega
      clear hm
      go_wp2_with (first
        | (at_builtin; refine Kd.R_append (Kd.int .u8) (w0 := w) w.heap.size rfl (.tmp 30) (.tmp 31) 29 5 (.int .u8 0) 1 rfl Tryd.underlying29 info5 rfl (by decide) (by decide) _ (b ++ List.replicate k (0 : Int)) (0 : Int) [.int .u8 0] (fun _ => True) (fun _ => False) rfl rfl rfl (fun _ hk => hk.elim) (fun _ _ => trivial) HR.out HBr.out HBr.out.size (by rw [HLN.out]; omega) ?_; intro v9 w9 hR9 hb9 hg9 hat9; have HR9 := Aside0.mk hR9; have HB9 := Aside0.mk hb9; have HX9 : Aside0 (BxV w9 gx V) := ⟨HX1.out.frame (hg9.block _ HX1.out.lt (Ne.symm HNE.out))⟩; have HN9 : Aside0 (v9.ownBlock ≠ some gx) := ⟨by rcases hat9 with e | ⟨bb, e, hbb⟩; (rw [e]; exact HNE.out); (have := HX1.out.lt; rw [e]; intro h; injection h with h; omega)⟩; clear hR9 hb9 hg9 hat9)
        | fail)
      have HL9 : Aside0 (lenV v9 = n + (k + 1)) := ⟨by obtain ⟨A2, c2, e⟩ := Kd.R_slice HR9.out; rw [e]; show (b ++ List.replicate k (0 : Int) ++ [0]).length = _; rw [List.length_append, HLN.out]; rfl⟩
      go_roundw
      case rel => exact ⟨k + 1, by omega, HL9.out, ⟨by rw [List.replicate_succ', ← List.append_assoc]; exact HR9.out⟩, HX9, HN9, HB9⟩
      case measure =>
        have h1 := HL9.out
        have h2 := HM.out
        rw [h1]
        show 2000 - (n + (k + 1)) < 2000 - m
        omega
    · have hke : k = 7 - n % 8 := by omega
      have heq : ((m % 8 : Nat) : Int) = 7 := by omega
      have hm2 : m ≤ 1100 := by omega
      clear hm
      go_wp2_with (first
        | (at_builtin; refine Kd.R_append (Kd.int .u8) (w0 := w) w.heap.size rfl (.tmp 33) (.tmp 37) 29 5 (.int .u8 0) 1 rfl Tryd.underlying29 info5 rfl (by decide) (by decide) _ (b ++ List.replicate k (0 : Int)) (IntKind.u8.wrap (n : Int)) [.int .u8 (IntKind.u8.wrap (n : Int))] (fun _ => True) (fun _ => False) rfl rfl rfl (fun _ hk => hk.elim) (fun _ _ => trivial) HR.out HBr.out HBr.out.size (by rw [HLN.out]; omega) ?_; intro v9 w9 hR9 hb9 hg9 hat9; have HR9 := Aside0.mk hR9; have HB9 := Aside0.mk hb9; have HX9 : Aside0 (BxV w9 gx V) := ⟨HX1.out.frame (hg9.block _ HX1.out.lt (Ne.symm HNE.out))⟩; have HN9 : Aside0 (v9.ownBlock ≠ some gx) := ⟨by rcases hat9 with e | ⟨bb, e, hbb⟩; (rw [e]; exact HNE.out); (have := HX1.out.lt; rw [e]; intro h; injection h with h; omega)⟩; clear hR9 hb9 hg9 hat9)
        | fail)
      have HPD : Aside0 ((Kd.int .u8).R 5 w9 w.heap.size (fun _ => True) v9 (padded b)) := ⟨by
        have h := HR9.out
        rw [hke, ← HN.out] at h
        unfold padded
        exact h⟩
      obtain ⟨K, hK⟩ : ∃ K, K = b.length / 8 + 1 := ⟨_, rfl⟩
      have HKL := Aside0.mk hK
      have hPL : (padded b).length = K * 8 := by rw [hK]; exact padded_length b
      have hK1 : 1 ≤ K ∧ K ≤ 200 := by have := HN.out; omega
      clear hK
      obtain ⟨A9, c9, e9⟩ := Kd.R_slice HPD.out
      subst e9
      obtain ⟨gt, hT, hg1, hg2, hgo⟩ := txt_of_R HPD.out (by omega)
      have hc9 := (Kd.R_reads' HPD.out).2.1
      have HNT : Aside0 (gt ≠ gx) := ⟨fun e => HN9.out (by rw [hgo, e])⟩
      have HT0 : Aside0 (Txt w9 gt A9 ((padded b).drop (8 * 0))) := ⟨hT⟩
      rw [hPL] at hc9 ⊢
      have HPL := Aside0.mk hPL
      have HX90 : Aside0 (BxV w9 gx (run8 V (padded b) 0)) := ⟨HX9.out⟩
      clear hT hg1 hg2 hgo hPL HR9 HX9 HN9 HR HX1 HNE HBr HPD ht heq hm2 hke hlv HLN HM
      go_loopw [8] (fun v8 wr => ∃ (q : Nat) (A1 : Option Addr) (c1 : Nat), q ≤ K ∧ v8 = .slice A1 ((K - q) * 8) c1 ∧ (K - q) * 8 ≤ c1 ∧ Aside0 (Txt wr gt A1 ((padded b).drop (8 * q))) ∧ Aside0 (BxV wr gx (run8 V (padded b) q)) ∧ Aside0 (Below w.heap.size w wr)) (fun v8 _ => lenV v8)
      case atStart => exact ⟨0, A9, c9, Nat.zero_le _, rfl, hc9, HT0, HX90, HB9⟩
      case round =>
        obtain ⟨q, A1, c1, hq, rfl, hc1, HT, HXq, HBq⟩ := hrel
        clear HT0 HX90 HB9 hc9
        have HTL : Aside0 (((padded b).drop (8 * q)).length = (K - q) * 8) := ⟨by rw [List.length_drop, HPL.out]; omega⟩
        by_cases hqK : q < K
        · obtain ⟨m, hm⟩ : ∃ m, m = (K - q) * 8 := ⟨_, rfl⟩
          have hm8 : 8 ≤ m := by omega
          have hm2 : m ≤ 1600 := by omega
          rw [← hm] at hc1 HTL ⊢
          have HSS : Aside0 (run8 V (padded b) (q + 1) = sstep (run8 V (padded b) q) (wordP ((padded b).drop (8 * q)))) := ⟨rfl⟩
          have HTD : Aside0 ((padded b).drop (8 * (q + 1)) = ((padded b).drop (8 * q)).drop 8) := ⟨by rw [List.drop_drop]; rfl⟩
          have HMM : Aside0 (m - 8 = (K - (q + 1)) * 8) := ⟨by omega⟩
          have hMM := HMM.out
          clear hm
          generalize (padded b).drop (8 * q) = T at HT HTL HSS HTD
          generalize run8 V (padded b) q = v at HXq HSS
          obtain ⟨va, vb, vc, vd⟩ := v
          have HWD : Aside0 (Calls Tryd.prog 40 #[.slice A1 8 c1] wr fun e w' => e = .returned (.int .u64 (wordP T)) ∧ ∃ n, w' = wr.drewN n) := ⟨by
            have hl : (T.take 8).length = 8 := by rw [List.length_take, HTL.out]; omega
            have h1 := Kd.C_take (k := Kd.int .u8) HT.out.C (m := 8) (by rw [HTL.out]; exact hm8)
            rw [hl] at h1
            have h2 := word_any A1 c1 (T.take 8) wr hl h1 (by omega)
            rw [show wordP (T.take 8) = wordP T by unfold wordP; rw [List.take_take]; rfl] at h2
            exact h2⟩
          obtain ⟨wd, hwd⟩ : ∃ wd, wd = wordP T := ⟨_, rfl⟩
          rw [← hwd] at HWD HSS
          clear hwd
          have HTF := Aside0.mk (HT.out.drop (m := 8) (c := c1) (by rw [HTL.out]; exact hm8) (by rw [HTL.out]; exact hc1))
          go_wp2_with (first
            | (go_at_call 40; (with_reducible refine HWD.out.mono ?_); rintro e2 w2 ⟨rfl, n2, h2⟩; have hb2 : Below wr.heap.size wr w2 := (by rw [h2]; apply pw_below_drewN; exact Below.refl _ _); have HX2 := Aside0.mk (HXq.out.below hb2); have HT2 := Aside0.mk (HTF.out.frame (hb2.block _ HTF.out.lt)); have HB2 := Aside0.mk (below_step HBq.out hb2); have k0 := HX2.out.k0; have k1 := HX2.out.k1; have k2 := HX2.out.k2; have k3 := HX2.out.k3; clear h2 hb2)
            | ((with_reducible refine gate_store (t := 22) (p := 51) rfl ?_); refine st3 rfl rfl rfl HX2.out HB2.out HG.out rfl rfl ?_; intro x3 w3 hx3 hX hB hK; have HX3 := Aside0.mk hX; have HB3 := Aside0.mk hB; have HT3 := Aside0.mk (HT2.out.frame (hK _ HNT.out)); have HP3 := Aside0.mk hx3; clear k0 k1 k2 k3 hX hB hK hx3; have k0 := HX3.out.k0; have k1 := HX3.out.k1; have k2 := HX3.out.k2; have k3 := HX3.out.k3)
            | (go_at_call 41; (with_reducible refine (stir_calls va vb vc x3 _).mono ?_); rintro e4 w4 hq; unfold IsStir at hq; obtain ⟨rfl, hb4⟩ := hq; have HX4 := Aside0.mk (HX3.out.below hb4); have HT4 := Aside0.mk (HT3.out.frame (hb4.block _ HT3.out.lt)); have HB4 := Aside0.mk (below_step HB3.out hb4); clear hb4 k0 k1 k2 k3)
            | (go_at_call 41; (with_reducible refine (stir4 _ _).mono ?_); rintro e5 w5 hq; unfold IsStir at hq; obtain ⟨rfl, hb5⟩ := hq; have HX5 := Aside0.mk (HX4.out.below hb5); have HT5 := Aside0.mk (HT4.out.frame (hb5.block _ HT4.out.lt)); have HB5 := Aside0.mk (below_step HB4.out hb5); clear hb5)
            | ((with_reducible refine gate_store (t := 74) (p := 7) rfl ?_); refine stA rfl rfl rfl HX5.out HB5.out HG.out rfl rfl ?_; intro w6 hX hB hK; have HX6 := Aside0.mk hX; have HB6 := Aside0.mk hB; have HT6 := Aside0.mk (HT5.out.frame (hK _ HNT.out)); clear hX hB hK; have k0 := HX6.out.k0)
            | ((with_reducible refine gate_store (t := 22) (p := 59) rfl ?_); refine st0 rfl rfl rfl HX6.out HB6.out HG.out rfl rfl ?_; intro x0 w7 hx0 hX hB hK; have HX7 := Aside0.mk hX; have HB7 := Aside0.mk hB; have HT7 := Aside0.mk (HT6.out.frame (hK _ HNT.out)); have HP0 := Aside0.mk hx0; clear k0 hX hB hK hx0)
            | fail)
          have HFIN : Aside0 (run8 V (padded b) (q + 1) = (x0, (stir (stir (va, vb, vc, x3))).2.1, (stir (stir (va, vb, vc, x3))).2.2.1, (stir (stir (va, vb, vc, x3))).2.2.2)) := ⟨by
            rw [HSS.out, HP0.out, HP3.out]
            rfl⟩
          go_roundw
          case rel => exact ⟨q + 1, _, _, by omega, rfl, by omega, ⟨by rw [HTD.out]; exact HT7.out⟩, ⟨by rw [HFIN.out]; exact HX7.out⟩, HB7⟩
          case measure => first | (show m - 8 < m; omega) | (simp [lenV]; omega)
        · obtain rfl : q = K := by omega
          clear HT
          have k0 := HXq.out.k0
          have k1 := HXq.out.k1
          have k2 := HXq.out.k2
          have k3 := HXq.out.k3
          generalize hv : run8 V (padded b) q = v at HXq k0 k1 k2 k3
          obtain ⟨va, vb, vc, vd⟩ := v
          have HVE := Aside0.mk hv
          clear hv
          rw [Nat.sub_self, Nat.zero_mul] at HTL hc1 ⊢
          simp only at k0 k1 k2 k3
          go_wp2_with (first
            | ((with_reducible refine gate_store (t := 22) (p := 63) rfl ?_); refine st2 rfl rfl rfl HXq.out HBq.out HG.out rfl rfl ?_; intro x2 w3 hx2 hX hB hK; have HX3 := Aside0.mk hX; have HB3 := Aside0.mk hB; have HP2 := Aside0.mk hx2; clear k0 k1 k2 k3 hX hB hK hx2; have k0 := HX3.out.k0; have k1 := HX3.out.k1; have k2 := HX3.out.k2; have k3 := HX3.out.k3)
            | (go_at_call 41; (with_reducible refine (stir_calls va vb x2 vd _).mono ?_); rintro e4 w4 hq; unfold IsStir at hq; obtain ⟨rfl, hb4⟩ := hq; have HX4 := Aside0.mk (HX3.out.below hb4); have HB4 := Aside0.mk (below_step HB3.out hb4); clear hb4 k0 k1 k2 k3; obtain ⟨y1, hy1⟩ : ∃ y, y = stir (va, vb, x2, vd) := ⟨_, rfl⟩; rw [← hy1]; have HY1 := Aside0.mk hy1; clear hy1)
            | (go_at_call 41; (with_reducible refine (stir4 y1 _).mono ?_); rintro e5 w5 hq; unfold IsStir at hq; obtain ⟨rfl, hb5⟩ := hq; have HX5 := Aside0.mk (HX4.out.below hb5); have HB5 := Aside0.mk (below_step HB4.out hb5); clear hb5; obtain ⟨y2, hy2⟩ : ∃ y, y = stir y1 := ⟨_, rfl⟩; rw [← hy2]; have HY2 := Aside0.mk hy2; clear hy2)
            | (go_at_call 41; (with_reducible refine (stir4 y2 _).mono ?_); rintro e6 w6 hq; unfold IsStir at hq; obtain ⟨rfl, hb6⟩ := hq; have HX6 := Aside0.mk (HX5.out.below hb6); have HB6 := Aside0.mk (below_step HB5.out hb6); clear hb6; obtain ⟨y3, hy3⟩ : ∃ y, y = stir y2 := ⟨_, rfl⟩; rw [← hy3]; have HY3 := Aside0.mk hy3; clear hy3)
            | (go_at_call 41; (with_reducible refine (stir4 y3 _).mono ?_); rintro e7 w7 hq; unfold IsStir at hq; obtain ⟨rfl, hb7⟩ := hq; have HX7 := Aside0.mk (HX6.out.below hb7); have HB7 := Aside0.mk (below_step HB6.out hb7); clear hb7; obtain ⟨y4, hy4⟩ : ∃ y, y = stir y3 := ⟨_, rfl⟩; rw [← hy4]; have HY4 := Aside0.mk hy4; clear hy4)
            | ((with_reducible refine gate_store (t := 74) (p := 7) rfl ?_); refine stA rfl rfl rfl HX7.out HB7.out HG.out rfl rfl ?_; intro w8 hX hB hK; have HX8 := Aside0.mk hX; have HB8 := Aside0.mk hB; clear hX hB hK; have k0 := HX8.out.k0; have k1 := HX8.out.k1; have k2 := HX8.out.k2; have k3 := HX8.out.k3)
            | fail)
          refine bodyPost_ret (results_tmp rfl _ _ _) rfl ⟨?_, HB8.out⟩
          unfold sipP
          rw [← HKL.out, ← HVV.out, HVE.out]
          unfold ending4
          simp only
          rw [← HP2.out, ← HY1.out, ← HY2.out, ← HY3.out, ← HY4.out]
          rfl
end Go.Proofs.YtfhkkojdaejnjaaDoor.Gcs
namespace Go.Proofs.YtfhkkojdaejnjaaDoor.Gcs
open Go.RowKit Go.Proofs.YtfhkkojdaejnjaaDoor.Hand Go.Proofs.YtfhkkojdaejnjaaDoor.PFnForms Go.Proofs.YtfhkkojdaejnjaaDoorW.PrintWords Go.Proofs.YtfhkkojdaejnjaaDoorW.PrintLast Go.Proofs.YtfhkkojdaejnjaaDoorW.PrintMore

theorem limbs (a b al ah bl bh p q r s : Int) (ha : a = ah * 4294967296 + al) (hb : b = bh * 4294967296 + bl) (hp : al * bl = p) (hq : ah * bl = q) (hr : al * bh = r) (hs : ah * bh = s) :
    a * b = s * 18446744073709551616 + (q + r) * 4294967296 + p := by
  subst ha hb hp hq hr hs
  rw [Int.add_mul, Int.mul_add, Int.mul_add]
  have e1 : ah * 4294967296 * (bh * 4294967296) = ah * bh * 18446744073709551616 := by
    rw [Int.mul_assoc, Int.mul_left_comm 4294967296 bh, ← Int.mul_assoc]; rfl
  have e2 : ah * 4294967296 * bl = ah * bl * 4294967296 := by rw [Int.mul_assoc, Int.mul_comm 4294967296 bl, ← Int.mul_assoc]
  have e3 : al * (bh * 4294967296) = al * bh * 4294967296 := by rw [← Int.mul_assoc]
  omega
theorem mul_bd {x y : Int} (h0 : 0 ≤ x) (h1 : x ≤ 4294967295) (g0 : 0 ≤ y) (g1 : y ≤ 4294967295) : 0 ≤ x * y ∧ x * y ≤ 18446744065119617025 :=
  ⟨Int.mul_nonneg h0 g0, Int.le_trans (Int.mul_le_mul h1 g1 g0 (by omega)) (by omega)⟩
theorem wrap_id {x : Int} (h0 : 0 ≤ x) (h1 : x < 18446744073709551616) : IntKind.u64.wrap x = x := by rw [IntKind.wrap_u64]; omega
theorem low32 (x : Int) (h0 : 0 ≤ x) (h1 : x < 18446744073709551616) : Go.bits .and .u64 x 4294967295 = x % 4294967296 := bits_mask .u64 64 (by decide) (fun n h0 h1 => wrap_id h0 (by simpa using h1)) 32 (by decide) x h0 h1
theorem high_f (a b : Int) (ha0 : 0 ≤ a) (ha1 : a < 18446744073709551616) (hb0 : 0 ≤ b) (hb1 : b < 18446744073709551616) : spec_high.f a b = some (a * b / 18446744073709551616) := by
  unfold spec_high.f
  rw [low32 a ha0 ha1, low32 b hb0 hb1]
  have hA : a = a / 4294967296 * 4294967296 + a % 4294967296 := by omega
  have hB : b = b / 4294967296 * 4294967296 + b % 4294967296 := by omega
  have hL := limbs a b _ _ _ _ _ _ _ _ hA hB rfl rfl rfl rfl
  have p1 := mul_bd (x := a % 4294967296) (y := b % 4294967296) (by omega) (by omega) (by omega) (by omega)
  have p2 := mul_bd (x := a / 4294967296) (y := b % 4294967296) (by omega) (by omega) (by omega) (by omega)
  have p3 := mul_bd (x := a % 4294967296) (y := b / 4294967296) (by omega) (by omega) (by omega) (by omega)
  have p4 := mul_bd (x := a / 4294967296) (y := b / 4294967296) (by omega) (by omega) (by omega) (by omega)
  generalize a % 4294967296 * (b % 4294967296) = p at hL p1 ⊢
  generalize a / 4294967296 * (b % 4294967296) = q at hL p2 ⊢
  generalize a % 4294967296 * (b / 4294967296) = r at hL p3 ⊢
  generalize a / 4294967296 * (b / 4294967296) = s at hL p4 ⊢
  rw [hL]
  rw [wrap_id (x := p) (by omega) (by omega), wrap_id (x := q) (by omega) (by omega), wrap_id (x := r) (by omega) (by omega), wrap_id (x := s) (by omega) (by omega)]
  rw [wrap_id (x := q + p / 4294967296) (by omega) (by omega), low32 _ (by omega) (by omega)]
  rw [wrap_id (x := r + (q + p / 4294967296) % 4294967296) (by omega) (by omega)]
  rw [IntKind.wrap_u64, IntKind.wrap_u64]
  congr 1
  have hab : (s * 18446744073709551616 + (q + r) * 4294967296 + p) / 18446744073709551616 = s + (q + p / 4294967296) / 4294967296 + (r + (q + p / 4294967296) % 4294967296) / 4294967296 := by omega
  have hlt : s * 18446744073709551616 + (q + r) * 4294967296 + p < 18446744073709551616 * 18446744073709551616 := by
    rw [← hL]
    exact Int.lt_of_le_of_lt (Int.mul_le_mul (show a ≤ 18446744073709551615 by omega) (show b ≤ 18446744073709551615 by omega) hb0 (by omega)) (by decide)
  rw [hab]
  omega
theorem high_lt (a b : Int) (ha0 : 0 ≤ a) (ha1 : a < 18446744073709551616) (hb0 : 0 < b) : 0 ≤ a * b / 18446744073709551616 ∧ a * b / 18446744073709551616 < b := by
  refine ⟨Int.ediv_nonneg (Int.mul_nonneg ha0 (by omega)) (by omega), Int.ediv_lt_of_lt_mul (by omega) ?_⟩
  rw [Int.mul_comm b]
  exact Int.mul_lt_mul_of_pos_right ha1 hb0
end Go.Proofs.YtfhkkojdaejnjaaDoor.Gcs
namespace Go.Proofs.YtfhkkojdaejnjaaDoor.Gcs
open Go.RowKit Go.Proofs.YtfhkkojdaejnjaaDoor.Hand Go.Proofs.YtfhkkojdaejnjaaDoor.PFnForms Go.Proofs.YtfhkkojdaejnjaaDoorW.PrintWords Go.Proofs.YtfhkkojdaejnjaaDoorW.PrintLast Go.Proofs.YtfhkkojdaejnjaaDoorW.PrintMore

/-- A value on its way to its place. -/
def curI (l : List Int) (v : Int) (k : Nat) : List Int := l.take k ++ v :: l.drop k
def posI (l : List Int) (v : Int) : Nat → Nat
  | 0 => 0
  | k + 1 => if l.getD k 0 > v then posI l v k else k + 1
def insI (l : List Int) (v : Int) : List Int := curI l v (posI l v l.length)
theorem curI_length (l : List Int) (v : Int) (k : Nat) (h : k ≤ l.length) : (curI l v k).length = l.length + 1 := by unfold curI; simp; omega
theorem curI_end (l : List Int) (v : Int) : curI l v l.length = l ++ [v] := by unfold curI; simp
theorem curI_prev (l : List Int) (v : Int) (k : Nat) (h : k < l.length) : (curI l v (k + 1)).getD k 0 = l.getD k 0 := by
  unfold curI
  rw [List.getD_eq_getElem?_getD, List.getElem?_append_left (by simp; omega), List.getElem?_take_of_lt (by omega), List.getD_eq_getElem?_getD]
theorem curI_swap (l : List Int) (v : Int) (k : Nat) (h : k < l.length) : ((curI l v (k + 1)).set (k + 1) (l.getD k 0)).set k v = curI l v k := by
  apply List.ext_getElem?
  intro i
  unfold curI
  simp only [List.getElem?_set, List.getElem?_append, List.length_take, List.length_append, List.length_cons, List.length_drop, List.length_set]
  have e1 : min (k + 1) l.length = k + 1 := by omega
  have e2 : min k l.length = k := by omega
  rw [e1, e2]
  by_cases h1 : k = i
  · subst h1
    rw [if_pos rfl, if_pos (by omega), if_neg (by omega), Nat.sub_self]
    rfl
  · rw [if_neg h1]
    by_cases h2 : k + 1 = i
    · subst h2
      rw [if_pos rfl, if_pos (by omega), if_neg (by omega), show k + 1 - k = 0 + 1 by omega, List.getElem?_cons_succ, List.getElem?_drop, List.getD_eq_getElem?_getD, List.getElem?_eq_getElem h]
      simp [h]
    · rw [if_neg h2]
      by_cases h3 : i < k
      · rw [if_pos (by omega), if_pos h3, List.getElem?_take_of_lt (by omega), List.getElem?_take_of_lt h3]
      · rw [if_neg (by omega), if_neg h3]
        obtain ⟨j, rfl⟩ : ∃ j, i = k + 2 + j := ⟨i - (k + 2), by omega⟩
        rw [show k + 2 + j - (k + 1) = j + 1 by omega, show k + 2 + j - k = (j + 1) + 1 by omega, List.getElem?_cons_succ, List.getElem?_cons_succ, List.getElem?_drop, List.getElem?_drop]
        congr 1; omega
theorem posI_le (l : List Int) (v : Int) : ∀ k, posI l v k ≤ k
  | 0 => Nat.le_refl _
  | k + 1 => by
    unfold posI
    split
    · exact Nat.le_succ_of_le (posI_le l v k)
    · exact Nat.le_refl _
theorem posI_above (l : List Int) (v : Int) : ∀ k j, posI l v k ≤ j → j < k → l.getD j 0 > v
  | 0, j, _, h => absurd h (Nat.not_lt_zero _)
  | k + 1, j, h1, h2 => by
    unfold posI at h1
    split at h1
    · rename_i hg
      by_cases e : j = k
      · subst e; exact hg
      · exact posI_above l v k j h1 (by omega)
    · omega
theorem posI_below (l : List Int) (v : Int) : ∀ k, 0 < posI l v k → l.getD (posI l v k - 1) 0 ≤ v
  | 0, h => absurd h (Nat.not_lt_zero _)
  | k + 1, h => by
    unfold posI at h ⊢
    split
    · rename_i hg
      rw [if_pos hg] at h
      exact posI_below l v k h
    · rename_i hg
      show l.getD k 0 ≤ v
      omega
def Srt (l : List Int) : Prop := l.Pairwise (· ≤ ·)
theorem getD_mem {l : List Int} {i : Nat} (h : i < l.length) : l.getD i 0 = l[i] := by simp [List.getD_eq_getElem?_getD, h]
theorem insI_srt {l : List Int} (h : Srt l) (v : Int) : Srt (insI l v) := by
  unfold Srt insI curI
  have hle := posI_le l v l.length
  refine List.pairwise_append.2 ⟨h.sublist (List.take_sublist _ _), List.pairwise_cons.2 ⟨fun y hy => ?_, h.sublist (List.drop_sublist _ _)⟩, fun x hx y hy => ?_⟩
  · obtain ⟨i, hi, rfl⟩ := List.getElem_of_mem hy
    rw [List.length_drop] at hi
    rw [List.getElem_drop]
    have := posI_above l v l.length (posI l v l.length + i) (by omega) (by omega)
    rw [getD_mem (by omega)] at this
    omega
  · obtain ⟨i, hi, rfl⟩ := List.getElem_of_mem hx
    rw [List.length_take] at hi
    rw [List.getElem_take]
    have hp : 0 < posI l v l.length := by omega
    have hb := posI_below l v l.length hp
    rw [getD_mem (by omega)] at hb
    have hxv : l[i] ≤ v := by
      by_cases e : i = posI l v l.length - 1
      · subst e; exact hb
      · exact Int.le_trans (List.pairwise_iff_getElem.1 h i (posI l v l.length - 1) (by omega) (by omega) (by omega)) hb
    rcases List.mem_cons.1 hy with rfl | hy
    · exact hxv
    · obtain ⟨j, hj, rfl⟩ := List.getElem_of_mem hy
      rw [List.length_drop] at hj
      rw [List.getElem_drop]
      exact List.pairwise_iff_getElem.1 h _ _ (by omega) (by omega) (by omega)
theorem insI_mem {l : List Int} {v x : Int} (h : x ∈ insI l v) : x = v ∨ x ∈ l := by
  unfold insI curI at h
  rcases List.mem_append.1 h with h | h
  · exact .inr (List.take_subset _ _ h)
  · rcases List.mem_cons.1 h with h | h
    · exact .inl h
    · exact .inr (List.drop_subset _ _ h)
/-- The items' values, in their order. -/
def valI (ks : List Int) (f : Int) (b : List Int) : Int := sipP ks b * f / 18446744073709551616
def valsI (ks : List Int) (f : Int) (bs : List (List Int)) : List Int := bs.foldl (fun l b => insI l (valI ks f b)) []
theorem valsI_snoc (ks : List Int) (f : Int) (bs : List (List Int)) (b : List Int) : valsI ks f (bs ++ [b]) = insI (valsI ks f bs) (valI ks f b) := by unfold valsI; rw [List.foldl_append]; rfl
theorem valsI_aux (ks : List Int) (f : Int) (hf : 0 < f) : ∀ (bs : List (List Int)) (acc : List Int), Srt acc → (∀ x ∈ acc, 0 ≤ x ∧ x < f) →
    Srt (bs.foldl (fun l b => insI l (valI ks f b)) acc) ∧ (bs.foldl (fun l b => insI l (valI ks f b)) acc).length = acc.length + bs.length ∧ ∀ x ∈ bs.foldl (fun l b => insI l (valI ks f b)) acc, 0 ≤ x ∧ x < f
  | [], acc, h1, h2 => ⟨h1, rfl, h2⟩
  | b :: t, acc, h1, h2 => by
    have hs := sip_lo ks b
    obtain ⟨q1, q2, q3⟩ := valsI_aux ks f hf t (insI acc (valI ks f b)) (insI_srt h1 _) (fun x hx => by
      rcases insI_mem hx with rfl | hx
      · exact high_lt _ _ hs.1 hs.2 hf
      · exact h2 x hx)
    refine ⟨q1, ?_, q3⟩
    rw [List.foldl_cons, q2]
    unfold insI
    rw [curI_length _ _ _ (posI_le _ _ _), List.length_cons]
    omega
theorem valsI_facts (ks : List Int) (f : Int) (hf : 0 < f) (bs : List (List Int)) : Srt (valsI ks f bs) ∧ (valsI ks f bs).length = bs.length ∧ ∀ x ∈ valsI ks f bs, 0 ≤ x ∧ x < f := by
  have h := valsI_aux ks f hf bs [] List.Pairwise.nil (fun x hx => by cases hx)
  rw [List.length_nil, Nat.zero_add] at h
  exact h
/-- The bits of a difference: as many ones as it has times 2^p, a zero, the rest. -/
def restB (p : Nat) (d : Int) : Nat → List Int
  | 0 => []
  | k + 1 => restB p d k ++ [d / 2 ^ (p - (k + 1)) % 2]
def diffB (p : Nat) (d : Int) : List Int := List.replicate (d / 2 ^ p).toNat 1 ++ [0] ++ restB p d p
def bitsB (p : Nat) (l : List Int) : Nat → List Int
  | 0 => []
  | k + 1 => bitsB p l k ++ diffB p (l.getD k 0 - (if k = 0 then 0 else l.getD (k - 1) 0))
theorem restB_length (p : Nat) (d : Int) : ∀ k, (restB p d k).length = k
  | 0 => rfl
  | k + 1 => by unfold restB; rw [List.length_append, restB_length p d k]; rfl
theorem restB_bit (p : Nat) (d : Int) : ∀ k, ∀ x ∈ restB p d k, x = 0 ∨ x = 1
  | 0, x, h => by cases h
  | k + 1, x, h => by
    unfold restB at h
    rcases List.mem_append.1 h with h | h
    · exact restB_bit p d k x h
    · rw [List.mem_singleton.1 h]; omega
theorem bitsB_bit (p : Nat) (l : List Int) : ∀ k, ∀ x ∈ bitsB p l k, x = 0 ∨ x = 1
  | 0, x, h => by cases h
  | k + 1, x, h => by
    unfold bitsB at h
    rcases List.mem_append.1 h with h | h
    · exact bitsB_bit p l k x h
    · unfold diffB at h
      rcases List.mem_append.1 h with h | h
      · rcases List.mem_append.1 h with h | h
        · exact .inr (List.eq_of_mem_replicate h)
        · exact .inl (List.mem_singleton.1 h)
      · exact restB_bit p _ p x h
/-- The bytes of bits. -/
def setB (o : List Int) (i : Nat) (b : Int) : List Int := o.set (i / 8) (Go.bits .or .u8 (o.getD (i / 8) 0) (IntKind.u8.wrap (b * 2 ^ (7 - i % 8))))
def outB (bs : List Int) : Nat → List Int
  | 0 => List.replicate ((bs.length + 7) / 8) 0
  | k + 1 => setB (outB bs k) k (bs.getD k 0)
theorem outB_facts (bs : List Int) : ∀ k, (outB bs k).length = (bs.length + 7) / 8 ∧ ∀ x ∈ outB bs k, 0 ≤ x ∧ x < 256
  | 0 => ⟨by simp [outB], fun x hx => by rw [List.eq_of_mem_replicate hx]; decide⟩
  | k + 1 => by
    obtain ⟨h1, h2⟩ := outB_facts bs k
    refine ⟨by unfold outB setB; rw [List.length_set, h1], fun x hx => ?_⟩
    unfold outB setB at hx
    rcases List.mem_or_eq_of_mem_set hx with h | h
    · exact h2 x h
    · rw [h]
      exact ⟨bits_lo_u8 _ _ _, by have := bits_hi_u8 .or ((outB bs k).getD (k / 8) 0) (IntKind.u8.wrap (bs.getD k 0 * 2 ^ (7 - k % 8))); omega⟩
end Go.Proofs.YtfhkkojdaejnjaaDoor.Gcs
