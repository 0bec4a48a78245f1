/-
  The inputs' Less.
-/
import Derived.Test.YtpggphjnghhmeaaEqArr
namespace Go.Proofs.Ytpggphjnghhmeaa.Srt
open Go.RowKit Go.Proofs.Ytpggphjnghhmeaa.Hand Go.Proofs.Ytpggphjnghhmeaa.PFnSorted Go.Proofs.YtpggphjnghhmeaaW.PrintWords Go.Proofs.YtpggphjnghhmeaaW.PrintLast Go.Proofs.YtpggphjnghhmeaaW.PrintMore

theorem PI_at {w : World} {A : Option Addr} {n : Nat} {ys : List In40} (h : Kd.C kPI w A n ys) {i : Nat} (hi : i < n) :
    ∃ ad b, A = some ad ∧ w.cell? (ad.add i) = some (.pointer (some ⟨b, 0, none⟩)) ∧ (ys.getD i default).h.length = 32 ∧ w.heap[b]? = some (.cells (cell40 (ys.getD i default)).toArray 53 (0, 0)) := by
  obtain ⟨ad, e, hc⟩ := h.2.2 (by omega)
  have hl : i < ys.length := by have := h.1; omega
  obtain ⟨c, hs, hK, hcell⟩ := hc i _ (List.getElem?_eq_getElem hl)
  have hg : ys.getD i default = ys[i] := by rw [List.getD_eq_getElem?_getD, List.getElem?_eq_getElem hl]; rfl
  rw [hg]
  obtain ⟨b, rfl, hb, hle⟩ := hK
  refine ⟨ad, b, e, ?_, hb, hle⟩
  have := hcell 0 _ rfl
  rwa [show i * kPI.sz + 0 = i by show i * 1 + 0 = i; omega] at this
theorem hash_range {w : World} {b : Nat} {x : In40} {T : TypeId} (h : w.heap[b]? = some (.cells (cell40 x).toArray T (0, 0))) : w.rangeAt b 0 (by8 x.h) := fun j v hj => by
  rw [Nat.zero_add, blk_cell h]
  have hl : j < (by8 x.h).length := (List.getElem?_eq_some_iff.1 hj).1
  rw [List.getElem?_toArray]
  show (by8 x.h ++ _)[j]? = _
  rw [List.getElem?_append_left hl]
  exact hj
theorem row_range {w : World} {g : Nat} {X : List Value} {T : TypeId} (h : w.heap[g]? = some (.cells X.toArray T (0, 0))) : w.rangeAt g 0 X := fun j v hj => by
  rw [Nat.zero_add, blk_cell h, List.getElem?_toArray]
  exact hj
theorem index_at {w : World} {b : Nat} {x : In40} {T : TypeId} (hl : x.h.length = 32) (h : w.heap[b]? = some (.cells (cell40 x).toArray T (0, 0))) : w.cell? ⟨b, 32, none⟩ = some (.int .u32 x.i) := by
  rw [blk_cell h, List.getElem?_toArray]
  unfold cell40
  rw [List.getElem?_append_right (by simp [hl])]
  simp [hl]
theorem setCells_blk (g : Nat) {T : TypeId} {fr : Nat × Nat} : ∀ (vs : List Value) (o : Nat) (w : World) (cs : Array Value), w.heap[g]? = some (.cells cs T fr) →
    ∃ cs2, (w.setCells g o vs).heap[g]? = some (.cells cs2 T fr) ∧ cs2.size = cs.size ∧ ∀ p, cs2[p]? = if o ≤ p ∧ p < o + vs.length ∧ p < cs.size then vs[p - o]? else cs[p]?
  | [], o, w, cs, h => ⟨cs, h, rfl, fun p => by rw [if_neg (by simp; omega)]⟩
  | v :: r, o, w, cs, h => by
    obtain ⟨cs2, h1, h2, h3⟩ := setCells_blk g r (o + 1) (w.setCell ⟨g, o, none⟩ v) _ (blk_set (i := o) (y := v) h)
    refine ⟨cs2, h1, by rw [h2, Array.size_setIfInBounds], fun p => ?_⟩
    rw [h3, Array.size_setIfInBounds, Array.getElem?_setIfInBounds, List.length_cons]
    by_cases c1 : o + 1 ≤ p ∧ p < o + 1 + r.length ∧ p < cs.size
    · rw [if_pos c1, if_pos (by omega), show p - o = (p - (o + 1)) + 1 by omega, List.getElem?_cons_succ]
    · rw [if_neg c1]
      by_cases c2 : o = p
      · subst c2
        by_cases c3 : o < cs.size
        · rw [if_pos rfl, if_pos c3, if_pos (by omega), Nat.sub_self]; rfl
        · rw [if_pos rfl, if_neg c3, if_neg (by omega)]
          rw [Array.getElem?_eq_none (by omega)]
      · rw [if_neg c2]
        by_cases c3 : o ≤ p ∧ p < o + (r.length + 1) ∧ p < cs.size
        · omega
        · rw [if_neg c3]
theorem setCells_other (g : Nat) : ∀ (vs : List Value) (o : Nat) (w : World) (k : Nat), k ≠ g → (w.setCells g o vs).heap[k]? = w.heap[k]?
  | [], _, _, _, _ => rfl
  | v :: r, o, w, k, hk => by
    rw [World.setCells, setCells_other g r (o + 1) _ k hk]
    exact Below.heap_setCell w ⟨g, o, none⟩ v k hk
theorem setCells_below {B g : Nat} {w0 : World} (hg : B ≤ g) : ∀ (vs : List Value) (o : Nat) (w : World), Below B w0 w → Below B w0 (w.setCells g o vs)
  | [], _, _, h => h
  | v :: r, o, w, h => setCells_below hg r (o + 1) _ (h.setCell hg v)
section
variable {ops : Array Oper} {rest : List Oper} {o : Oper} {a : Act} {Q : Exit → Act → World → Prop} {W : World}
theorem info37 : (Try.prog.info? 37).map (·.size) = some 32 := by kernel_rfl
theorem arr_store (hgd : o.guard = none) {p : Tmp} {v : Operand} (ho : o.op = .store 37 (.tmp p) v) (hN : o.dst = none) {g : Nat} {cs : Array Value} (hb : W.heap[g]? = some (.cells cs 37 (0, 0))) (hs : cs.size = 32) (X : List Value) (hX : X.length = 32) (hone : ∀ v ∈ X, v.oneCell' = true)
    {B : Nat} {w0 : World} (hB : Below B w0 W) (hg : B ≤ g) (hp : a.eval (.tmp p) = .pointer (some ⟨g, 0, none⟩)) (hv : a.eval v = .agg X.toArray)
    (h : ∀ w1, w1.heap[g]? = some (.cells X.toArray 37 (0, 0)) → Below B w0 w1 → (∀ k, k ≠ g → w1.heap[k]? = W.heap[k]?) → wpList Try.prog ops Q rest a w1) : wpList Try.prog ops Q (o :: rest) a W := by
  refine wpList_store_mid hgd 37 (.tmp p) v ho g 0 X.toArray hp hv (fun j hj => ?_) (by rw [info37]; simp [hX]) (all_oneCell_toArray hone) ?_
  · rw [blk_cell hb, Nat.zero_add]
    refine ⟨?_, blk_frozen hb _⟩
    rw [List.size_toArray, hX] at hj
    simp [hs, hj]
  · obtain ⟨cs2, h1, h2, h3⟩ := setCells_blk g X 0 W cs hb
    have e : cs2 = X.toArray := by
      apply Array.ext'
      apply List.ext_getElem?
      intro p
      rw [Array.getElem?_toList, h3]
      by_cases c : p < 32
      · rw [if_pos (by omega)]; rfl
      · rw [if_neg (by omega), Array.getElem?_eq_none (by omega)]
        simp; omega
    rw [e] at h1
    rw [hN]
    exact h _ h1 (setCells_below hg _ _ _ hB) (fun k hk => setCells_other g _ _ _ k hk)
end
set_option maxRecDepth 100000 in
set_option maxHeartbeats 8000000 in
theorem lessI_calls (A : Option Addr) (n c : Nat) (ys : List In40) (i j : Nat) (w : World) (hC : Kd.C kPI w A n ys) (hi : i < n) (hj : j < n) :
    Calls Try.prog 56 #[.slice A n c, .int .i64 i, .int .i64 j] w fun e w' => e = .returned (.bool (lessI (ys.getD i default) (ys.getD j default))) ∧ Below w.heap.size w w' := by
  obtain ⟨ad, b1, e1, k1, hx, hb1⟩ := PI_at hC hi
  obtain ⟨ad', b2, e2, k2, hy, hb2⟩ := PI_at hC hj
  rw [e1] at e2
  injection e2 with e2
  subst e2
  subst e1
  generalize ys.getD i default = x at hx hb1 ⊢
  generalize ys.getD j default = y at hy hb2 ⊢
  have HB1 := Aside0.mk hb1
  have HB2 := Aside0.mk hb2
  have HX := Aside0.mk hx
  have HY := Aside0.mk hy
  have i0 : (0 : Int) ≤ (i : Int) := by omega
  have i1 : (i : Int) < (n : Int) := by omega
  have j0 : (0 : Int) ≤ (j : Int) := by omega
  have j1 : (j : Int) < (n : Int) := by omega
  have HX8 : Aside0 ((by8 x.h).length = 32) := ⟨by unfold by8; simp [hx]⟩
  have HY8 : Aside0 ((by8 y.h).length = 32) := ⟨by unfold by8; simp [hy]⟩
  obtain ⟨P8, hP⟩ : ∃ P8, P8 = (by8 x.h) := ⟨_, rfl⟩
  obtain ⟨Q8, hQ⟩ : ∃ Q8, Q8 = (by8 y.h) := ⟨_, rfl⟩
  have HP := Aside0.mk hP
  have HQ := Aside0.mk hQ
  have HB := Aside0.mk (Below.refl w.heap.size w)
  obtain ⟨eb, heb⟩ : ∃ eb, eb = decide (x.h = y.h) := ⟨_, rfl⟩
  have HEB := Aside0.mk heb
  have heq : ∀ W, (Op.equalIn 10000 37 (.agg P8.toArray) (.agg Q8.toArray)).run Try.prog W = .ok eb W := fun W => by rw [heb, hP, hQ]; exact eq37 x.h y.h hx hy 9998 W
  clear heb hP hQ hb1 hb2 hx hy hC
  cases eb
  · go_enter Try.func56, Try.ntmps56
    go_wp2_with (first
      | ((with_reducible show wpList _ _ _ _ _ _); (with_reducible refine wpList_load_mid (op := ⟨some 17, _, _, _, _, _⟩) rfl 37 (.tmp 16) rfl b1 0 rfl P8 _ (by rw [HP.out]; exact hash_range HB1.out) Try.underlying37 rfl (by rw [info37, HP.out, HX8.out]) ?_))
      | ((with_reducible refine gate_dst (N := 7) rfl ?_); refine box_event ?hg (N := 7) ?hd (cs := (List.replicate 32 (Value.int .u8 0)).toArray) (t := 37) ?hr ?_; (case hd => rfl); (case hg => rfl); (case hr => first | (go_simp; done) | (go_simp; rfl)); intro g7 hg w1 hbox hb1; have HZ1 := Aside0.mk hbox; have HW1 := Aside0.mk hb1; have HG7 : Aside0 (g7 = w.heap.size) := ⟨hg⟩; clear hg hbox hb1)
      | ((with_reducible refine gate_store (t := 37) (p := 7) rfl ?_); refine arr_store rfl rfl rfl HZ1.out (by simp) P8 (by rw [HP.out, HX8.out]) (by rw [HP.out]; exact by8_one _) HW1.out (Nat.le_of_eq HG7.out.symm) rfl rfl ?_; intro w2 hX hB hK; have HR7 := Aside0.mk hX; have HW2 := Aside0.mk hB; have l2 := pw_cell_below hB k2; have HB22 := Aside0.mk ((hB.block _ (blk_lt HB2.out)).trans HB2.out); clear hX hB hK)
      | ((with_reducible show wpList _ _ _ _ _ _); (with_reducible refine wpList_load_mid (op := ⟨some 25, _, _, _, _, _⟩) rfl 37 (.tmp 24) rfl b2 0 rfl Q8 _ (by rw [HQ.out]; exact hash_range HB22.out) Try.underlying37 rfl (by rw [info37, HQ.out, HY8.out]) ?_))
      | ((with_reducible refine gate_dst (N := 8) rfl ?_); refine box_event ?hg (N := 8) ?hd (cs := (List.replicate 32 (Value.int .u8 0)).toArray) (t := 37) ?hr ?_; (case hd => rfl); (case hg => rfl); (case hr => first | (go_simp; done) | (go_simp; rfl)); intro g8 hg w3 hbox hb3; have HZ3 := Aside0.mk hbox; have HW3 := Aside0.mk (below_step HW2.out hb3); have HR73 := Aside0.mk ((hb3.block _ (blk_lt HR7.out)).trans HR7.out); have HG8 : Aside0 (g8 = w2.heap.size) := ⟨hg⟩; clear hg hbox hb3)
      | ((with_reducible refine gate_store (t := 37) (p := 8) rfl ?_); refine arr_store rfl rfl rfl HZ3.out (by simp) Q8 (by rw [HQ.out, HY8.out]) (by rw [HQ.out]; exact by8_one _) HW3.out (by rw [HG8.out]; exact HW2.out.size) rfl rfl ?_; intro w4 hX hB hK; have HR8 := Aside0.mk hX; have HW4 := Aside0.mk hB; have HNE : Aside0 (g7 ≠ g8) := ⟨by have := blk_lt HR7.out; have := HG8.out; omega⟩; have HR74 := Aside0.mk ((hK _ HNE.out).trans HR73.out); clear hX hB hK)
      | ((with_reducible show wpList _ _ _ _ _ _); (with_reducible refine wpList_load_mid (op := ⟨some 26, _, _, _, _, _⟩) rfl 37 (.tmp 7) rfl g7 0 rfl P8 _ (row_range HR74.out) Try.underlying37 rfl (by rw [info37, HP.out, HX8.out]) ?_))
      | ((with_reducible show wpList _ _ _ _ _ _); (with_reducible refine wpList_load_mid (op := ⟨some 27, _, _, _, _, _⟩) rfl 37 (.tmp 8) rfl g8 0 rfl Q8 _ (row_range HR8.out) Try.underlying37 rfl (by rw [info37, HQ.out, HY8.out]) ?_))
      | fail)
    have E0 : Aside0 (revK 0 x.h = x.h ∧ revK 0 y.h = y.h) := ⟨revK_zero HX.out, revK_zero HY.out⟩
    have HA0 : Aside0 (w4.heap[g7]? = some (.cells (by8 (revK 0 x.h)).toArray 37 (0, 0))) := ⟨by rw [E0.out.1, ← HP.out]; exact HR74.out⟩
    have HB0 : Aside0 (w4.heap[g8]? = some (.cells (by8 (revK 0 y.h)).toArray 37 (0, 0))) := ⟨by rw [E0.out.2, ← HQ.out]; exact HR8.out⟩
    have HGG : Aside0 (w.heap.size ≤ g7 ∧ w.heap.size ≤ g8) := ⟨by rw [HG7.out]; exact Nat.le_refl _, by rw [HG8.out]; exact HW2.out.size⟩
    have HLF : Aside0 (lessI x y = ltB x.h.reverse y.h.reverse) := ⟨by unfold lessI; rw [if_neg (of_decide_eq_false HEB.out.symm)]⟩
    clear heq l2 k1 k2
    go_loopw [9] (fun v9 wr => ∃ k : Nat, v9 = .int .i64 k ∧ k ≤ 16 ∧ Aside0 (wr.heap[g7]? = some (.cells (by8 (revK k x.h)).toArray 37 (0, 0))) ∧ Aside0 (wr.heap[g8]? = some (.cells (by8 (revK k y.h)).toArray 37 (0, 0))) ∧ Aside0 (Below w.heap.size w wr)) (fun v9 _ => 16 - (intOf v9).toNat)
    case atStart => exact ⟨0, rfl, Nat.zero_le _, HA0, HB0, HW4⟩
    case round =>
      obtain ⟨k, rfl, hk, HA, HBk, HWr⟩ := hrel
      by_cases h16 : k < 16
      · obtain ⟨m, hm⟩ : ∃ m : Nat, m = 31 - k := ⟨_, rfl⟩
        have hsub : (31 : Int) - (k : Int) = (m : Int) := by omega
        have a1 : wr.cell? ⟨g7, k, none⟩ = some (.int .u8 ((revK k x.h).getD k 0)) := by rw [blk_cell HA.out]; exact by8_get (by rw [revK_length]; omega)
        have a2 : wr.cell? ⟨g7, m, none⟩ = some (.int .u8 ((revK k x.h).getD m 0)) := by rw [blk_cell HA.out]; exact by8_get (by rw [revK_length]; omega)
        have f1 := blk_frozen HA.out k
        have f2 := blk_frozen HA.out m
        have hne : ¬ k = m := by omega
        have hne2 : ¬ m = k := by omega
        have i16 : (k : Int) < 16 := by omega
        have i32 : (k : Int) < 32 := by omega
        have k0 : (0 : Int) ≤ (k : Int) := by omega
        have m0 : (0 : Int) ≤ (m : Int) := by omega
        have m32 : (m : Int) < 32 := by omega
        have HM := Aside0.mk hm
        clear hm
        obtain ⟨u1, hu1⟩ : ∃ u1, u1 = (revK k x.h).getD k 0 := ⟨_, rfl⟩
        obtain ⟨v1, hv1⟩ : ∃ v1, v1 = (revK k x.h).getD m 0 := ⟨_, rfl⟩
        rw [← hu1] at a1
        rw [← hv1] at a2
        have HU1 := Aside0.mk (And.intro hu1 hv1)
        clear hu1 hv1
        go_wp2_with fail
        go_region
        have HA2 : Aside0 ((((wr.setCell ⟨g7, k, none⟩ (.int .u8 v1)).setCell ⟨g7, m, none⟩ (.int .u8 u1)).drew).heap[g7]? = some (.cells (by8 (revK (k + 1) x.h)).toArray 37 (0, 0))) := ⟨by
          have h := blk_set (i := m) (y := .int .u8 u1) (blk_set (i := k) (y := .int .u8 v1) HA.out)
          rw [HU1.out.1, HU1.out.2, HM.out] at h
          rw [← revK_cells k h16 x.h, HU1.out.1, HU1.out.2, HM.out]
          exact h⟩
        have HB2 : Aside0 ((((wr.setCell ⟨g7, k, none⟩ (.int .u8 v1)).setCell ⟨g7, m, none⟩ (.int .u8 u1)).drew).heap[g8]? = some (.cells (by8 (revK k y.h)).toArray 37 (0, 0))) := ⟨by
          have e1 := Below.heap_setCell wr ⟨g7, k, none⟩ (.int .u8 v1) g8 (Ne.symm HNE.out)
          have e2 := Below.heap_setCell (wr.setCell ⟨g7, k, none⟩ (.int .u8 v1)) ⟨g7, m, none⟩ (.int .u8 u1) g8 (Ne.symm HNE.out)
          exact (e2.trans e1).trans HBk.out⟩
        have HW2' : Aside0 (Below w.heap.size w (((wr.setCell ⟨g7, k, none⟩ (.int .u8 v1)).setCell ⟨g7, m, none⟩ (.int .u8 u1)).drew)) := ⟨below_drew ((HWr.out.setCell HGG.out.1 _).setCell HGG.out.1 _)⟩
        clear a1 a2 f1 f2
        generalize (((wr.setCell ⟨g7, k, none⟩ (.int .u8 v1)).setCell ⟨g7, m, none⟩ (.int .u8 u1)).drew) = wA at HA2 HB2 HW2' ⊢
        obtain ⟨u2, hu2⟩ : ∃ u2, u2 = (revK k y.h).getD k 0 := ⟨_, rfl⟩
        obtain ⟨v2, hv2⟩ : ∃ v2, v2 = (revK k y.h).getD m 0 := ⟨_, rfl⟩
        have b1' : wA.cell? ⟨g8, k, none⟩ = some (.int .u8 u2) := by rw [hu2, blk_cell HB2.out]; exact by8_get (by rw [revK_length]; omega)
        have b2' : wA.cell? ⟨g8, m, none⟩ = some (.int .u8 v2) := by rw [hv2, blk_cell HB2.out]; exact by8_get (by rw [revK_length]; omega)
        have f1 := blk_frozen HB2.out k
        have f2 := blk_frozen HB2.out m
        have HU2 := Aside0.mk (And.intro hu2 hv2)
        clear hu2 hv2
        go_wp2_with fail
        go_region
        have HB3 : Aside0 ((((wA.setCell ⟨g8, k, none⟩ (.int .u8 v2)).setCell ⟨g8, m, none⟩ (.int .u8 u2)).drew).heap[g8]? = some (.cells (by8 (revK (k + 1) y.h)).toArray 37 (0, 0))) := ⟨by
          have h := blk_set (i := m) (y := .int .u8 u2) (blk_set (i := k) (y := .int .u8 v2) HB2.out)
          rw [HU2.out.1, HU2.out.2, HM.out] at h
          rw [← revK_cells k h16 y.h, HU2.out.1, HU2.out.2, HM.out]
          exact h⟩
        have HA3 : Aside0 ((((wA.setCell ⟨g8, k, none⟩ (.int .u8 v2)).setCell ⟨g8, m, none⟩ (.int .u8 u2)).drew).heap[g7]? = some (.cells (by8 (revK (k + 1) x.h)).toArray 37 (0, 0))) := ⟨by
          have e1 := Below.heap_setCell wA ⟨g8, k, none⟩ (.int .u8 v2) g7 HNE.out
          have e2 := Below.heap_setCell (wA.setCell ⟨g8, k, none⟩ (.int .u8 v2)) ⟨g8, m, none⟩ (.int .u8 u2) g7 HNE.out
          exact (e2.trans e1).trans HA2.out⟩
        have HW3' : Aside0 (Below w.heap.size w (((wA.setCell ⟨g8, k, none⟩ (.int .u8 v2)).setCell ⟨g8, m, none⟩ (.int .u8 u2)).drew)) := ⟨below_drew ((HW2'.out.setCell HGG.out.2 _).setCell HGG.out.2 _)⟩
        clear b1' b2' f1 f2
        generalize (((wA.setCell ⟨g8, k, none⟩ (.int .u8 v2)).setCell ⟨g8, m, none⟩ (.int .u8 u2)).drew) = wB at HA3 HB3 HW3' ⊢
        go_wp2_with fail
        go_roundw
        case rel => exact ⟨k + 1, rfl, h16, HA3, HB3, HW3'⟩
        case measure => simp only [intOf]; omega
      · obtain rfl : k = 16 := by omega
        have HCA : Aside0 (Kd.C (Kd.int .u8) wr (some ⟨g7, 0, none⟩) 32 x.h.reverse) := ⟨by
          have h := C_of_block (e := 37) (fr := (0, 0)) (k := .u8) (xs := x.h.reverse) (by rw [← revK_16 HX.out]; exact HA.out) (by simp [HX.out])
          rwa [List.length_reverse, HX.out] at h⟩
        have HCB : Aside0 (Kd.C (Kd.int .u8) wr (some ⟨g8, 0, none⟩) 32 y.h.reverse) := ⟨by
          have h := C_of_block (e := 37) (fr := (0, 0)) (k := .u8) (xs := y.h.reverse) (by rw [← revK_16 HY.out]; exact HBk.out) (by simp [HY.out])
          rwa [List.length_reverse, HY.out] at h⟩
        have HQ1 : Aside0 (∀ m, Calls Try.prog 58 #[.slice (some ⟨g7, 0, none⟩) 32 32, .slice (some ⟨g8, 0, none⟩) 32 32] (wr.drewN m) fun e w'' => e = .returned (.int .i64 (cmpB x.h.reverse y.h.reverse)) ∧ ∃ q, w'' = wr.drewN q) := ⟨cmp_quiet _ 32 32 _ _ 32 32 _ wr HCA.out HCB.out (by omega) (by omega)⟩
        have HLR : Aside0 (lessI x y = decide (cmpB x.h.reverse y.h.reverse = -1)) := ⟨by rw [HLF.out, cmpB_m1]⟩
        go_wp2_with fail
        go_quiet (with_reducible exact HQ1.out _)
        go_wp2_with fail
        refine bodyPost_ret (results_tmp rfl _ _ _) rfl ⟨by rw [HLR.out]; rfl, ?_⟩
        apply pw_below_drewN
        exact HWr.out
  · go_enter Try.func56, Try.ntmps56
    go_wp2_with (first
      | ((with_reducible show wpList _ _ _ _ _ _); (with_reducible refine wpList_load_mid (op := ⟨some 17, _, _, _, _, _⟩) rfl 37 (.tmp 16) rfl b1 0 rfl P8 _ (by rw [HP.out]; exact hash_range HB1.out) Try.underlying37 rfl (by rw [info37, HP.out, HX8.out]) ?_))
      | ((with_reducible refine gate_dst (N := 7) rfl ?_); refine box_event ?hg (N := 7) ?hd (cs := (List.replicate 32 (Value.int .u8 0)).toArray) (t := 37) ?hr ?_; (case hd => rfl); (case hg => rfl); (case hr => first | (go_simp; done) | (go_simp; rfl)); intro g7 hg w1 hbox hb1; have HZ1 := Aside0.mk hbox; have HW1 := Aside0.mk hb1; have HG7 : Aside0 (g7 = w.heap.size) := ⟨hg⟩; clear hg hbox hb1)
      | ((with_reducible refine gate_store (t := 37) (p := 7) rfl ?_); refine arr_store rfl rfl rfl HZ1.out (by simp) P8 (by rw [HP.out, HX8.out]) (by rw [HP.out]; exact by8_one _) HW1.out (Nat.le_of_eq HG7.out.symm) rfl rfl ?_; intro w2 hX hB hK; have HR7 := Aside0.mk hX; have HW2 := Aside0.mk hB; have l2 := pw_cell_below hB k2; have HB22 := Aside0.mk ((hB.block _ (blk_lt HB2.out)).trans HB2.out); clear hX hB hK)
      | ((with_reducible show wpList _ _ _ _ _ _); (with_reducible refine wpList_load_mid (op := ⟨some 25, _, _, _, _, _⟩) rfl 37 (.tmp 24) rfl b2 0 rfl Q8 _ (by rw [HQ.out]; exact hash_range HB22.out) Try.underlying37 rfl (by rw [info37, HQ.out, HY8.out]) ?_))
      | ((with_reducible refine gate_dst (N := 8) rfl ?_); refine box_event ?hg (N := 8) ?hd (cs := (List.replicate 32 (Value.int .u8 0)).toArray) (t := 37) ?hr ?_; (case hd => rfl); (case hg => rfl); (case hr => first | (go_simp; done) | (go_simp; rfl)); intro g8 hg w3 hbox hb3; have HZ3 := Aside0.mk hbox; have HW3 := Aside0.mk (below_step HW2.out hb3); have HR73 := Aside0.mk ((hb3.block _ (blk_lt HR7.out)).trans HR7.out); have HG8 : Aside0 (g8 = w2.heap.size) := ⟨hg⟩; clear hg hbox hb3)
      | ((with_reducible refine gate_store (t := 37) (p := 8) rfl ?_); refine arr_store rfl rfl rfl HZ3.out (by simp) Q8 (by rw [HQ.out, HY8.out]) (by rw [HQ.out]; exact by8_one _) HW3.out (by rw [HG8.out]; exact HW2.out.size) rfl rfl ?_; intro w4 hX hB hK; have HR8 := Aside0.mk hX; have HW4 := Aside0.mk hB; have HNE : Aside0 (g7 ≠ g8) := ⟨by have := blk_lt HR7.out; have := HG8.out; omega⟩; have HR74 := Aside0.mk ((hK _ HNE.out).trans HR73.out); clear hX hB hK)
      | ((with_reducible show wpList _ _ _ _ _ _); (with_reducible refine wpList_load_mid (op := ⟨some 26, _, _, _, _, _⟩) rfl 37 (.tmp 7) rfl g7 0 rfl P8 _ (row_range HR74.out) Try.underlying37 rfl (by rw [info37, HP.out, HX8.out]) ?_))
      | ((with_reducible show wpList _ _ _ _ _ _); (with_reducible refine wpList_load_mid (op := ⟨some 27, _, _, _, _, _⟩) rfl 37 (.tmp 8) rfl g8 0 rfl Q8 _ (row_range HR8.out) Try.underlying37 rfl (by rw [info37, HQ.out, HY8.out]) ?_))
      | fail)
    have HXI := index_at HX.out (show w4.heap[b1]? = some (.cells (cell40 x).toArray 53 (0, 0)) from (HW4.out.block _ (blk_lt HB1.out)).trans HB1.out)
    have HYI := index_at HY.out (show w4.heap[b2]? = some (.cells (cell40 y).toArray 53 (0, 0)) from (HW4.out.block _ (blk_lt HB2.out)).trans HB2.out)
    have m1 := pw_cell_below HW4.out k1
    have m2 := pw_cell_below HW4.out k2
    have HR : Aside0 (lessI x y = decide (x.i < y.i)) := ⟨by unfold lessI; rw [if_pos (of_decide_eq_true HEB.out.symm)]⟩
    clear l2 k1 k2
    go_wp2_with fail
    go_quiet (fail)
    go_wp2_with fail
    refine bodyPost_ret (results_tmp rfl _ _ _) rfl ⟨by rw [HR.out]; rfl, ?_⟩
    apply pw_below_drewN
    exact HW4.out
end Go.Proofs.Ytpggphjnghhmeaa.Srt
