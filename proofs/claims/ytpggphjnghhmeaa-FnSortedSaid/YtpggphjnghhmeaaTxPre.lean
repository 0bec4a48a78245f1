/-
  An input by value: loaded, stored, built.
-/
import Derived.Test.YtpggphjnghhmeaaSortTop
namespace Go.Proofs.Ytpggphjnghhmeaa.Srt
open Go.RowKit Go.Proofs.Ytpggphjnghhmeaa.Hand Go.Proofs.Ytpggphjnghhmeaa.PFnSorted Go.Proofs.YtpggphjnghhmeaaW.PrintWords Go.Proofs.YtpggphjnghhmeaaW.PrintLast Go.Proofs.YtpggphjnghhmeaaW.PrintMore

theorem info40 : (Try.prog.info? 40).map (·.size) = some 33 := by kernel_rfl
theorem info53 : (Try.prog.info? 53).map (·.size) = some 33 := by kernel_rfl
theorem loadVar_any {P : Program} (w : World) (ad : Addr) (ty : TypeId) (cs : List Value) (d : TypeDesc) (hc : ∀ j v, cs[j]? = some v → w.cell? (ad.add j) = some v)
    (hu : P.underlying ty = some d) (hd : d.isRow = true) (hi : (P.info? ty).map (·.size) = some cs.length) : (loadVar ty ad).run P w = .ok (.agg cs.toArray) w := by
  have hl : (loadCells ad cs.length).run P w = .ok cs.toArray w := run_loadCells_list (P := P) w ad cs hc
  cases hq : P.info? ty with
  | none => simp [hq] at hi
  | some i =>
    have hs : i.size = cs.length := by simpa [hq] using hi
    have hagg : (isAgg ty).run P w = .ok true w := by
      unfold isAgg
      rw [Sem.run_bind, run_underlying hu w]
      cases d <;> simp_all
    simp [loadVar, Sem.run_bind, hagg, sizeOf, typeInfo, hq, hs, hl]
section
variable {ops : Array Oper} {rest : List Oper} {o : Oper} {a : Act} {Q : Exit → Act → World → Prop} {W : World}
/-- A row's element, loaded whole, wherever it lies. -/
theorem load_any (hgd : o.guard = none) (ty : TypeId) (x : Operand) (ho : o.op = .load ty x) (ad : Addr) (hx : a.eval x = .pointer (some ad)) (cs : List Value) (d : TypeDesc) (hc : ∀ j v, cs[j]? = some v → W.cell? (ad.add j) = some v)
    (hu : Try.prog.underlying ty = some d) (hd : d.isRow = true) (hi : (Try.prog.info? ty).map (·.size) = some cs.length)
    (h : wpList Try.prog ops Q rest (a.put o.dst (.agg cs.toArray)) W) : wpList Try.prog ops Q (o :: rest) a W := by
  refine wpList_plain hgd fun K hK => ?_
  unfold Oper.wp execOp
  simp only [ho, hx, Instr.loadAt, Instr.sureAddr, Sem.run_bind, Sem.run_pure, Result.andThen_ok, loadVar_any W ad ty cs d hc hu hd hi]
  exact hK _ _ h
/-- A block, stored whole. -/
theorem whole_store {ty : TypeId} {sz : Nat} {T : TypeId} (hinfo : (Try.prog.info? ty).map (·.size) = some sz) (hgd : o.guard = none) {p : Tmp} {v : Operand} (ho : o.op = .store ty (.tmp p) v) (hN : o.dst = none) {g : Nat} {cs : Array Value} (hb : W.heap[g]? = some (.cells cs T (0, 0))) (hs : cs.size = sz) (X : List Value) (hX : X.length = sz) (hone : ∀ v ∈ X, v.oneCell' = true)
    {B : Nat} {w0 : World} (hB : Below B w0 W) (hg : B ≤ g) (hp : a.eval (.tmp p) = .pointer (some ⟨g, 0, none⟩)) (hv : a.eval v = .agg X.toArray)
    (h : ∀ w1, w1.heap[g]? = some (.cells X.toArray T (0, 0)) → Below B w0 w1 → (∀ k, k ≠ g → w1.heap[k]? = W.heap[k]?) → wpList Try.prog ops Q rest a w1) : wpList Try.prog ops Q (o :: rest) a W := by
  refine wpList_store_mid hgd ty (.tmp p) v ho g 0 X.toArray hp hv (fun j hj => ?_) (by rw [hinfo]; simp [hX]) (all_oneCell_toArray hone) ?_
  · rw [blk_cell hb, Nat.zero_add]
    refine ⟨?_, blk_frozen hb _⟩
    rw [List.size_toArray, hX] at hj
    simp [hs, hj]
  · obtain ⟨cs2, h1, h2, h3⟩ := setCells_blk g X 0 W cs hb
    have e : cs2 = X.toArray := by
      apply Array.ext'
      apply List.ext_getElem?
      intro p
      rw [Array.getElem?_toList, h3]
      by_cases c : p < sz
      · rw [if_pos (by omega)]; rfl
      · rw [if_neg (by omega), Array.getElem?_eq_none (by omega)]
        simp; omega
    rw [e] at h1
    rw [hN]
    exact h _ h1 (setCells_below hg _ _ _ hB) (fun k hk => setCells_other g _ _ _ k hk)
end
theorem range_keep {w w1 : World} {b o : Nat} {cs : List Value} (h : w.rangeAt b o cs) (hb : Below w.heap.size w w1) : w1.rangeAt b o cs := fun j v hj => pw_cell_below hb (h j v hj)
theorem range_set {w : World} {b o g i : Nat} {cs : List Value} {u : Value} (h : w.rangeAt b o cs) (hne : b ≠ g) : (w.setCell ⟨g, i, none⟩ u).rangeAt b o cs := fun j v hj => by
  rw [← h j v hj]
  have := Below.heap_setCell w ⟨g, i, none⟩ u b hne
  unfold World.cell?
  simp only [this]
theorem cell_set {w : World} {b o g i : Nat} {u v : Value} (h : w.cell? ⟨b, o, none⟩ = some v) (hne : b ≠ g) : (w.setCell ⟨g, i, none⟩ u).cell? ⟨b, o, none⟩ = some v := by
  rw [← h]
  have := Below.heap_setCell w ⟨g, i, none⟩ u b hne
  unfold World.cell?
  simp only [this]
theorem range_same {w w1 : World} {b o : Nat} {cs : List Value} (h : w.rangeAt b o cs) (hb : w1.heap[b]? = w.heap[b]?) : w1.rangeAt b o cs := fun j v hj => by
  rw [← h j v hj]
  unfold World.cell?
  simp only [hb]
theorem cell_same {w w1 : World} {b o : Nat} {v : Value} (h : w.cell? ⟨b, o, none⟩ = some v) (hb : w1.heap[b]? = w.heap[b]?) : w1.cell? ⟨b, o, none⟩ = some v := by
  rw [← h]
  unfold World.cell?
  simp only [hb]
theorem In_at {w : World} {A : Option Addr} {n : Nat} {xs : List In40} (h : Kd.C kIn w A n xs) {i : Nat} (hi : i < n) :
    ∃ ad, A = some ad ∧ (xs.getD i default).h.length = 32 ∧ ∀ j v, (cell40 (xs.getD i default))[j]? = some v → w.cell? ((ad.add (i * 33)).add j) = some v := by
  obtain ⟨ad, e, hc⟩ := h.2.2 (by omega)
  have hl : i < xs.length := by have := h.1; omega
  obtain ⟨c, hs, hK, hcell⟩ := hc i _ (List.getElem?_eq_getElem hl)
  have hg : xs.getD i default = xs[i] := by rw [List.getD_eq_getElem?_getD, List.getElem?_eq_getElem hl]; rfl
  rw [hg]
  obtain ⟨rfl, hx⟩ := hK
  refine ⟨ad, e, hx, fun j v hj => ?_⟩
  rw [Addr.add_add]
  exact hcell j v hj
/-- An input's cells, as the struct is built. -/
abbrev outA (X : Array Value) (i : Int) : Array Value :=
  (Array.foldl (fun cs x => cs.setIfInBounds x.2 x.1)
    #[.int .u8 0, .int .u8 0, .int .u8 0, .int .u8 0, .int .u8 0, .int .u8 0, .int .u8 0, .int .u8 0, .int .u8 0, .int .u8 0, .int .u8 0, .int .u8 0, .int .u8 0, .int .u8 0, .int .u8 0, .int .u8 0,
      .int .u8 0, .int .u8 0, .int .u8 0, .int .u8 0, .int .u8 0, .int .u8 0, .int .u8 0, .int .u8 0, .int .u8 0, .int .u8 0, .int .u8 0, .int .u8 0, .int .u8 0, .int .u8 0, .int .u8 0, .int .u8 0, .int .u32 0]
    X.zipIdx 0 32).setIfInBounds 32 (.int .u32 i)
theorem fold_arr (X Z : Array Value) (n : Nat) (hn : X.size = n) : Array.foldl (fun cs x => cs.setIfInBounds x.2 x.1) Z X.zipIdx 0 n = X.toList.zipIdx.foldl (fun cs x => cs.setIfInBounds x.2 x.1) Z := by
  subst hn
  have e : X.size = X.zipIdx.size := by simp
  rw [e, ← Array.foldl_toList]
  simp
theorem fold_set (xs : List Value) : ∀ (k : Nat) (Z : Array Value), k + xs.length ≤ Z.size → ((xs.zipIdx k).foldl (fun cs x => cs.setIfInBounds x.2 x.1) Z).toList = Z.toList.take k ++ (xs ++ Z.toList.drop (k + xs.length)) := by
  induction xs with
  | nil => intro k Z h; simp
  | cons x xs ih =>
    intro k Z h
    rw [List.length_cons] at h
    rw [List.zipIdx_cons, List.foldl_cons, ih (k + 1) _ (by simp; omega)]
    simp only [Array.toList_setIfInBounds, List.length_cons]
    have hk : k < Z.toList.length := by simp; omega
    rw [List.take_succ_eq_append_getElem (by simpa using hk), List.take_set_of_le (Nat.le_refl _), List.getElem_set_self, List.drop_set_of_lt (by omega)]
    simp [Nat.add_comm, Nat.add_left_comm]
theorem outA_is (x : In40) (hl : x.h.length = 32) : outA (by8 x.h).toArray x.i = (cell40 x).toArray := by
  have hz : (by8 x.h).toArray.size = 32 := by simp [by8, hl]
  have e : (by8 x.h).length = 32 := by simpa using hz
  unfold outA
  rw [fold_arr _ _ 32 hz]
  apply Array.ext'
  rw [Array.toList_setIfInBounds, fold_set _ 0 _ (by simp [e])]
  simp only [List.take_zero, List.nil_append, Nat.zero_add, e]
  rw [List.set_append_right _ _ (by omega), e]
  rfl
theorem out_size (X : Array Value) (hX : X.size = 32) (Z : Array Value) : (Array.foldl (fun cs x => cs.setIfInBounds x.2 x.1) Z X.zipIdx 0 32).size = Z.size := by
  rw [fold_arr _ _ 32 hX]
  generalize X.toList.zipIdx = l
  induction l generalizing Z with
  | nil => rfl
  | cons x l ih => rw [List.foldl_cons, ih]; simp
theorem fold_all (X Z : Array Value) (n : Nat) (hX : X.size = n) (hZ : Z.size = n) : Array.foldl (fun cs x => cs.setIfInBounds x.2 x.1) Z X.zipIdx 0 n = X := by
  rw [fold_arr _ _ n hX]
  apply Array.ext'
  rw [fold_set _ 0 _ (by simp; omega)]
  simp only [List.take_zero, List.nil_append, Nat.zero_add]
  rw [List.drop_eq_nil_of_le (by simp; omega), List.append_nil]
theorem size40 {x : In40} (hl : x.h.length = 32) : (cell40 x).length = 33 := cell40_length hl
theorem RI_grown {W w4 : World} {base : Nat} {ok : Nat → Prop} {v1 v2 : Value} {I : List In40} (h : kPI.R 50 W base ok v1 I) (hg : W.grownBy w4 v2.ownBlock) (hv : ∀ k, v2.ownBlock = some k → ∃ cells, W.heap[k]? = some (.cells cells 54 (0, 0))) : kPI.R 50 w4 base ok v1 I := by
  refine Kd.R_mono (Kd.R_grown (Kd.R_bound h) hg (fun k hk e => ?_)) (fun k hk => hk.1)
  obtain ⟨_, _, _, q, hq, cells, hc⟩ := hk
  obtain ⟨cells2, hc2⟩ := hv k e.symm
  rw [hc] at hc2
  injection hc2 with hc2
  injection hc2 with _ hc2
  subst hc2
  simp [kPI] at hq
theorem R_typed {α : Type} {d : Kd α} {e : Nat} {w : World} {base : Nat} {ok : Nat → Prop} {v : Value} {ys : List α} (h : d.R e w base ok v ys) : ∀ k, v.ownBlock = some k → ∃ cells, w.heap[k]? = some (.cells cells e (0, 0)) := fun k hk => by
  obtain ⟨_, _, ho, _⟩ := h
  exact own_typed ho k hk
theorem R_ownlt {α : Type} {d : Kd α} {e : Nat} {w : World} {base : Nat} {ok : Nat → Prop} {v : Value} {ys : List α} (h : d.R e w base ok v ys) : ∀ k, v.ownBlock = some k → k < w.heap.size := fun k hk => by
  obtain ⟨_, _, ho, _⟩ := h
  exact own_lt ho k hk
theorem info5' : (Try.prog.info? 5).map (fun i => (i.zero, i.size, i.bytes)) = some (some (.int .u8 0), 1, 1) := by kernel_rfl
theorem clone17_calls (A : Option Addr) (c : Nat) (b : List Int) (w : World) (hC : Kd.C (Kd.int .u8) w A b.length b) (hb : b.length ≤ 1000000) :
    Calls Try.prog 17 #[.slice A b.length c] w fun e w' => ∃ v, e = .returned v ∧ Kd.R (Kd.int .u8) 5 w' w.heap.size (fun _ => True) v b ∧ Below w.heap.size w w' := by
  have HC := Aside0.mk hC
  have HB := Aside0.mk (Below.refl w.heap.size w)
  clear hC
  go_enter Try.func17, Try.ntmps17
  go_wp2_with (first | (refine Kd.R_append_row (h1 := fun _ => rfl) (w0 := w) (Value.int .u8) (0 : Int) w.heap.size rfl _ _ 25 5 (.int .u8 0) 1 rfl Try.underlying25 info5' rfl (by decide) (.slice none 0 0) [] b A b.length c (fun _ => True) rfl rfl (fun _ _ => trivial) (Kd.R_nil _ _ _ _ _) HC.out HB.out (Nat.le_refl _) (by simp; omega) ?_; intro v1 w1 hR hB1 _ _) | fail)
  go_ret
  exact ⟨_, rfl, by rw [List.nil_append] at hR; exact hR, hB1⟩
theorem step_calls {P : Program} {ops : Array Oper} {o : Oper} {a : Act} {W : World} {Kc : Act → World → Prop} {Q : Exit → Act → World → Prop} {E : Prop} (hgd : o.guard = none) {f : FuncId} {vals : Array Value} {Post : Ending → World → Prop}
    (hrun : (execOp a.eval o).run P W = .ok (.enter f vals) W) (hc : Calls P f vals W Post) (hp : ∀ e w1, Post e w1 → ∃ v, e = .returned v ∧ Kc (a.put o.dst v) w1) :
    if Region.wanted o (yielded ops a.tmps) = true then Oper.wp P o a W Kc Q else E := by
  rw [if_pos (by simp [Region.wanted, hgd])]
  unfold Oper.wp
  rw [hrun, Oper.upon_enter]
  exact hc.mono fun e w1 h => by
    obtain ⟨v, rfl, hk⟩ := hp e w1 h
    exact hk
/-- A message in its block. -/
structure Msg (w : World) (g : Nat) (A1 : Option Addr) (n1 c1 : Nat) (I : List In40) (A2 : Option Addr) (n2 c2 : Nat) (O : List S27) : Prop where
  blk : w.heap[g]? = some (.cells #[.slice A1 n1 c1, .slice A2 n2 c2] 49 (0, 0))
  CI : Kd.C kPI w A1 n1 I
  CO : Kd.C kPO w A2 n2 O
theorem Msg.below {w w1 : World} {g : Nat} {A1 : Option Addr} {n1 c1 : Nat} {I : List In40} {A2 : Option Addr} {n2 c2 : Nat} {O : List S27} (h : Msg w g A1 n1 c1 I A2 n2 c2 O) (hb : Below w.heap.size w w1) : Msg w1 g A1 n1 c1 I A2 n2 c2 O :=
  ⟨(hb.block g (blk_lt h.blk)).trans h.blk, Kd.C_below h.CI hb, Kd.C_below h.CO hb⟩
theorem Msg.cells {w : World} {g : Nat} {A1 : Option Addr} {n1 c1 : Nat} {I : List In40} {A2 : Option Addr} {n2 c2 : Nat} {O : List S27} (h : Msg w g A1 n1 c1 I A2 n2 c2 O) : w.cell? ⟨g, 0, none⟩ = some (.slice A1 n1 c1) ∧ w.cell? ⟨g, 1, none⟩ = some (.slice A2 n2 c2) := by
  have hb := h.blk
  exact ⟨by rw [blk_cell hb]; rfl, by rw [blk_cell hb]; rfl⟩
set_option maxRecDepth 100000 in
theorem txsorted_calls (g : Nat) (A1 : Option Addr) (n1 c1 : Nat) (I : List In40) (A2 : Option Addr) (n2 c2 : Nat) (O : List S27) (w : World) (hM : Msg w g A1 n1 c1 I A2 n2 c2 O) (h1 : n1 ≤ 12) (h2 : n2 ≤ 12) (hs : small O) :
    Calls Try.prog 14 #[.pointer (some ⟨g, 0, none⟩)] w (IsTest w (adj lessI I n1 ∧ adj lessO O n2)) := by
  obtain ⟨k0, k1⟩ := hM.cells
  obtain ⟨b1, hb1⟩ : ∃ b1 : Bool, b1 = true ↔ adj lessI I n1 := by
    by_cases h : adj lessI I n1
    · exact ⟨true, fun _ => h, fun _ => rfl⟩
    · exact ⟨false, fun e => (by cases e), fun e => absurd e h⟩
  obtain ⟨b2, hb2⟩ : ∃ b2 : Bool, b2 = true ↔ adj lessO O n2 := by
    by_cases h : adj lessO O n2
    · exact ⟨true, fun _ => h, fun _ => rfl⟩
    · exact ⟨false, fun e => (by cases e), fun e => absurd e h⟩
  have HI : Aside0 (Calls Try.prog 18 #[.iface 59 (.slice A1 n1 c1)] w fun e w' => e = .returned (.bool b1) ∧ Below w.heap.size w w') := ⟨(issortedI_calls A1 n1 c1 I w hM.CI h1 trivial).mono fun e w' ⟨b, h, hb, hw⟩ => ⟨by rw [h, Bool.eq_iff_iff.2 (hb.trans hb1.symm)], hw⟩⟩
  have HO : Aside0 (∀ W, Below w.heap.size w W → Calls Try.prog 18 #[.iface 60 (.slice A2 n2 c2)] W fun e w' => e = .returned (.bool b2) ∧ Below W.heap.size W w') := ⟨fun W hw => (issortedO_calls A2 n2 c2 O W (Kd.C_below hM.CO hw) h2 hs).mono fun e w' ⟨b, h, hb, hw⟩ => ⟨by rw [h, Bool.eq_iff_iff.2 (hb.trans hb2.symm)], hw⟩⟩
  have HB1 := Aside0.mk hb1
  have HB2 := Aside0.mk hb2
  clear hM hs hb1 hb2
  cases b1
  · go_enter Try.func14, Try.ntmps14
    go_wp2_with (first
      | (go_at_call 18; (with_reducible refine HI.out.mono ?_); rintro e1 w1 ⟨rfl, hw1⟩; have HW1 := Aside0.mk hw1; clear hw1 k0 k1)
      | fail)
    exact bodyPost_ret (results_tmp rfl _ _ _) rfl ⟨false, rfl, ⟨fun h => (by cases h), fun h => absurd (HB1.out.2 h.1) (by decide)⟩, HW1.out⟩
  cases b2
  · go_enter Try.func14, Try.ntmps14
    go_wp2_with (first
      | (go_at_call 18; (with_reducible refine HI.out.mono ?_); rintro e1 w1 ⟨rfl, hw1⟩; have HW1 := Aside0.mk hw1; have k2 := pw_cell_below hw1 k1; clear hw1 k0 k1)
      | (go_at_call 18; (with_reducible refine (HO.out _ HW1.out).mono ?_); rintro e2 w2 ⟨rfl, hw2⟩; have HW2 := Aside0.mk (below_step HW1.out hw2); clear hw2)
      | fail)
    exact bodyPost_ret (results_tmp rfl _ _ _) rfl ⟨false, rfl, ⟨fun h => (by cases h), fun h => absurd (HB2.out.2 h.2) (by decide)⟩, HW2.out⟩
  · go_enter Try.func14, Try.ntmps14
    go_wp2_with (first
      | (go_at_call 18; (with_reducible refine HI.out.mono ?_); rintro e1 w1 ⟨rfl, hw1⟩; have HW1 := Aside0.mk hw1; have k2 := pw_cell_below hw1 k1; clear hw1 k0 k1)
      | (go_at_call 18; (with_reducible refine (HO.out _ HW1.out).mono ?_); rintro e2 w2 ⟨rfl, hw2⟩; have HW2 := Aside0.mk (below_step HW1.out hw2); clear hw2)
      | fail)
    exact bodyPost_ret (results_tmp rfl _ _ _) rfl ⟨true, rfl, ⟨fun _ => ⟨by first | exact HB1.out.1 rfl | exact HB1.out.1 trivial, by first | exact HB2.out.1 rfl | exact HB2.out.1 trivial⟩, fun _ => rfl⟩, HW2.out⟩
end Go.Proofs.Ytpggphjnghhmeaa.Srt
