/-
  A filter's bytes behind P.
-/
import Derived.Test.YtfhkkojdaejnjaaDoorFormWalk
import Derived.Deep.RegionLaw
namespace Go.Proofs.YtfhkkojdaejnjaaDoor.Gcs
open Go.RowKit Go.Proofs.YtfhkkojdaejnjaaDoor.Hand Go.Proofs.YtfhkkojdaejnjaaDoor.Buf Go.Proofs.YtfhkkojdaejnjaaDoor.PFnForms Go.Proofs.YtfhkkojdaejnjaaDoorW.PrintWords Go.Proofs.YtfhkkojdaejnjaaDoorW.PrintLast Go.Proofs.YtfhkkojdaejnjaaDoorW.PrintMore

section
variable {ops : Array Oper} {rest : List Oper} {o : Oper} {a : Act} {Q : Exit → Act → World → Prop} {W : World}
theorem st_run5 {p : Tmp} {v : Operand} (ho : o.op = .store 5 (.tmp p) v) {g i : Nat} {x z : Int} (hp : a.eval (.tmp p) = .pointer (some ⟨g, i, none⟩)) (hv : a.eval v = .int .u8 x) (hc : W.cell? ⟨g, i, none⟩ = some (.int .u8 z)) (hf : W.frozen? ⟨g, i, none⟩ = false) :
    (execOp a.eval o).run Tryd.prog W = .ok .skip (W.setCell ⟨g, i, none⟩ (.int .u8 x)) := by
  unfold execOp
  rw [ho]
  simp only [hp, hv]
  simp [go_sem, hc, hf]
theorem blk_store5 (hgd : o.guard = none) {p : Tmp} {v : Operand} (ho : o.op = .store 5 (.tmp p) v) (hN : o.dst = none) {g i : Nat} {B : Nat} {w0 : World} {y z : Int} {cs : Array Value} {T : TypeId} (hb : W.heap[g]? = some (.cells cs T (0, 0))) (hi : cs[i]? = some (.int .u8 z)) (hB : Below B w0 W) (hg : B ≤ g)
    (hp : a.eval (.tmp p) = .pointer (some ⟨g, i, none⟩)) (hv : a.eval v = .int .u8 y)
    (h : ∀ w1, w1.heap[g]? = some (.cells (cs.setIfInBounds i (.int .u8 y)) T (0, 0)) → Below B w0 w1 → (∀ k, k ≠ g → w1.heap[k]? = W.heap[k]?) → wpList Tryd.prog ops Q rest a w1) : wpList Tryd.prog ops Q (o :: rest) a W :=
  store_event hgd ho hN (st_run5 ho hp hv (cell_of_blk hb hi).1 (cell_of_blk hb hi).2) fun w1 e => h w1 (by subst e; exact bx_set hb) (by subst e; exact hB.setCell hg _) (by subst e; exact fun k hk => Below.heap_setCell W _ _ k hk)
end
theorem splice_p (p : Int) (D : List Int) : splice (Value.int .u8 p :: List.replicate D.length (Value.int .u8 0)) 1 (D.map (Value.int .u8)) = (p :: D).map (Value.int .u8) := by
  unfold splice
  simp
  omega
set_option maxRecDepth 100000 in
set_option maxHeartbeats 8000000 in
theorem pbytes_calls (f : Nat) (n p md : Int) (A : Option Addr) (c : Nat) (D : List Int) (w : World) (hF : Flt w f n p md A c D) (hD : D.length ≤ 1000000) (hpos : 0 < D.length) : Calls Tryd.prog 29 #[.pointer (some ⟨f, 0, none⟩)] w (IsCopy w (p :: D)) := by
  obtain ⟨k0, k1, k2, k3⟩ := hF.cells
  have HF := Aside0.mk hF
  clear hF k0 k2
  obtain ⟨i0, hi, hz0, hz1, hz2⟩ := info_parts info5
  have HII := Aside0.mk (And.intro hi (And.intro hz0 (And.intro hz1 hz2)))
  clear hi hz0 hz1 hz2
  obtain ⟨l, hl⟩ : ∃ l, l = D.length := ⟨_, rfl⟩
  have HL := Aside0.mk hl
  rw [← hl] at hD hpos k3
  have hl0 : ¬ l = 0 := by omega
  have hle : (1 : Int) ≤ (l : Int) + 1 := by omega
  clear hl
  go_enter Tryd.func29, Tryd.ntmps29
  go_wp2_with (first
    | (at_make; refine wpList_make_full w rfl _ _ 29 rfl w.heap.size 5 i0 (.int .u8 0) 1 Tryd.underlying29 HII.out.1 HII.out.2.1 HII.out.2.2.1 .i64 .i64 _ _ (l + 1) rfl rfl (by omega) (by omega) (by rw [HII.out.2.2.2]; omega) (by unfold maxLen; omega) (Nat.le_refl _) ?_; intro w1 hown hgrow; have ho := (own_full hown).1; rw [made_zeros, List.replicate_succ] at ho; have HO := Aside0.mk ho; have HB1 := Aside0.mk ((Below.refl w.heap.size w).grown hgrow (Nat.le_refl _) (fun _ h => by cases h)); have HF1 := Aside0.mk (HF.out.below HB1.out); have k4 := HF1.out.cells.2.1; clear hown hgrow k3 k1 ho)
    | ((with_reducible refine gate_store (t := 5) (p := 17) rfl ?_); refine blk_store5 rfl rfl rfl (i := 0) (z := 0) HO.out rfl HB1.out (Nat.le_refl _) rfl rfl ?_; intro w2 hF hB hK; have HO2 : Aside0 (w2.heap[w.heap.size]? = some (.cells (Value.int .u8 p :: List.replicate l (Value.int .u8 0)).toArray 5 (0, 0))) := ⟨hF⟩; have HB2 := Aside0.mk hB; have HF2 := Aside0.mk (HF.out.below HB2.out); have k5 := HF2.out.cells.2.2.2; rw [← HL.out] at k5; clear hF hB hK k4)
    | fail)
  obtain ⟨g, hg⟩ : ∃ g, g = w.heap.size := ⟨_, rfl⟩
  have HGE := Aside0.mk hg
  rw [← hg] at HO2 ⊢
  clear hg
  go_region_law (refine step_copy_splice rfl (.tmp 19) (.tmp 23) 29 29 rfl 5 Tryd.underlying29 size5 (some ⟨g, 1, none⟩) A l l l c (by simp [Act.eval, Act.put]) (by simp [Act.eval, Act.put]) g 1 (Value.int .u8 p :: List.replicate l (Value.int .u8 0)) 5 HO2.out (D.map (Value.int .u8)) (by simp [HL.out]) (fun hp => ⟨rfl, by obtain ⟨ad, e, hc⟩ := C_cells HF2.out.C (by simpa using hp); exact ⟨ad, e, hc⟩⟩) (by simp [HL.out]; omega) (ints_one _ _) w.heap.size w (below_drew HB2.out) (Nat.le_of_eq HGE.out.symm) ?_; intro w3 hg3 hb3; have HS3 := Aside0.mk hg3.out; have HB3 := Aside0.mk hb3; clear hg3 hb3)
  all_goals
    go_wp2_with fail
    refine bodyPost_ret (results_tmp2 rfl _ _ _) rfl ⟨g, by rw [List.length_cons, ← HL.out]; rfl, ?_, Nat.le_of_eq HGE.out.symm, HB3.out⟩
    have h := HS3.out
    rw [HL.out, splice_p] at h
    exact h
end Go.Proofs.YtfhkkojdaejnjaaDoor.Gcs
