/-
  A row of items, written out of two rows: its first cells are the other row's.
  laws.FnAny, its guards.
  laws.FnAny, behind its guards.
  The law FnAny, at all inputs.
-/
import Derived.Test.YtfhkkojdaejnjaaDoorJT
import Derived.Test.YtfhkkojdaejnjaaDoorJD
import Derived.Deep.RegionHeld3
set_option linter.unusedVariables false
namespace Go.Proofs.YtfhkkojdaejnjaaDoor.Gcs
open Go.RowKit Go.Proofs.YtfhkkojdaejnjaaDoor.Hand Go.Proofs.YtfhkkojdaejnjaaDoor.Buf Go.Proofs.YtfhkkojdaejnjaaDoor.PFnForms Go.Proofs.YtfhkkojdaejnjaaDoorW.PrintWords Go.Proofs.YtfhkkojdaejnjaaDoorW.PrintLast Go.Proofs.YtfhkkojdaejnjaaDoorW.PrintMore

theorem info29 : (Tryd.prog.info? 29).map (fun i => (i.zero, i.size, i.bytes)) = some (some (.slice none 0 0), 1, 24) := by kernel_rfl
/-- Cells that stand for items. -/
def Items (w : World) (xs : List (List Int)) (rows : List (List Value)) : Prop := rows.length = xs.length ∧ ∀ (j : Nat) (x : List Int) (c : List Value), xs[j]? = some x → rows[j]? = some c → (Kd.slice 5 (Kd.int .u8)).K w x c
theorem Items.below {w w1 : World} {xs : List (List Int)} {rows : List (List Value)} (h : Items w xs rows) (hb : Below w.heap.size w w1) : Items w1 xs rows :=
  ⟨h.1, fun j x c hx hc => (Kd.slice 5 (Kd.int .u8)).K_below hb (h.2 j x c hx hc)⟩
theorem Items.snoc {w : World} {xs : List (List Int)} {rows : List (List Value)} (h : Items w xs rows) {x : List Int} {c : List Value} (hx : (Kd.slice 5 (Kd.int .u8)).K w x c) : Items w (xs ++ [x]) (rows ++ [c]) := by
  refine ⟨by rw [List.length_append, List.length_append, h.1]; rfl, fun j y d hy hd => ?_⟩
  by_cases hj : j < xs.length
  · rw [List.getElem?_append_left hj] at hy
    rw [List.getElem?_append_left (by rw [h.1]; exact hj)] at hd
    exact h.2 j y d hy hd
  · rw [List.getElem?_append_right (by omega)] at hy
    rw [List.getElem?_append_right (by rw [h.1]; omega), h.1] at hd
    obtain ⟨k, hk⟩ : ∃ k, k = j - xs.length := ⟨_, rfl⟩
    rw [← hk] at hy hd
    match k, hy, hd with
    | 0, hy, hd =>
      simp only [List.getElem?_cons_zero, Option.some.injEq] at hy hd
      rw [← hy, ← hd]
      exact hx
    | _ + 1, hy, _ => simp at hy
theorem C_of_items {w : World} {A : Option Addr} {m : Nat} {xs : List (List Int)} {rows : List (List Value)} (h : (Kd.raw 1).C w A m rows) (hI : Items w xs rows) : Kd.C (Kd.slice 5 (Kd.int .u8)) w A m xs := by
  refine ⟨hI.1.symm.trans h.1, h.2.1, fun hm => ?_⟩
  obtain ⟨ad, e, hc⟩ := h.2.2 hm
  refine ⟨ad, e, fun j p hj => ?_⟩
  have hjl : j < rows.length := by rw [hI.1]; exact (List.getElem?_eq_some_iff.1 hj).1
  obtain ⟨c, hl, hk, hcell⟩ := hc j _ (List.getElem?_eq_getElem hjl)
  have hk1 : c = rows[j] := hk.1
  exact ⟨c, hl, hI.2 j p c hj (by rw [hk1]; exact List.getElem?_eq_getElem hjl), hcell⟩
theorem items_of_C {w : World} {A : Option Addr} {m : Nat} {xs : List (List Int)} (h : Kd.C (Kd.slice 5 (Kd.int .u8)) w A m xs) : ∃ rows, Items w xs rows ∧ (Kd.raw 1).C w A m rows := by
  obtain ⟨news, hl, hr, hk⟩ := Kd.reads_raw (sz := 1) h (fun x c hk => ⟨(Kd.slice 5 (Kd.int .u8)).K_len hk, (Kd.slice 5 (Kd.int .u8)).K_one hk⟩)
  exact ⟨news, ⟨hl, hk⟩, hr⟩
theorem none_R (W : World) (base : Nat) (hb : base ≤ W.heap.size) : (Kd.raw 1).R 29 (W.alloc (.cells #[] 29)) base (fun _ => True) (.slice (some ⟨W.heap.size, 0, none⟩) 0 0) [] :=
  ⟨fun _ _ => trivial, [], World.ownsRow_lit (base := base) (e := 29) (size := 1) W #[] 0 hb (by decide) (by rfl), Reps.none _ _⟩
theorem one_C {w : World} {g : Nat} {s : Value} {T : TypeId} (h : w.heap[g]? = some (.cells #[s] T (0, 0))) (hs : s.oneCell' = true) : (Kd.raw 1).C w (some ⟨g, 0, none⟩) 1 [[s]] := by
  refine ⟨rfl, by decide, fun _ => ⟨⟨g, 0, none⟩, rfl, fun j p hj => ?_⟩⟩
  match j, hj with
  | 0, hj =>
    simp only [List.getElem?_cons_zero, Option.some.injEq] at hj
    subst hj
    refine ⟨[s], rfl, ⟨rfl, rfl, fun u hu => by rw [List.mem_singleton.1 hu]; exact hs⟩, fun i u hu => ?_⟩
    match i, hu with
    | 0, hu =>
      simp only [List.getElem?_cons_zero, Option.some.injEq] at hu
      subst hu
      rw [show (0 * (Kd.raw 1).sz + 0) = 0 by omega, add_plain, blk_cell h]
      rfl
section
variable {ops : Array Oper} {o : Oper} {a : Act} {Q : Exit → Act → World → Prop} {K : Act → World → Prop} {W w0 : World}
/-- append(v, rows...), as a step of a region that draws. -/
theorem app_rows (hw : Region.wanted o (yielded ops a.tmps) = true) (s x : Operand) (ho : o.op = .call { callee := .builtin .append, args := #[s, x], argTypes := #[24, 24] }) (v : Value) (rows news : List (List Value)) (A : Option Addr) (m c : Nat) (hs : a.eval s = v) (hx : a.eval x = .slice A m c)
    (hR : (Kd.raw 1).R 29 W w0.heap.size (fun _ => True) v rows) (hN : (Kd.raw 1).C W A m news) (hB : Below w0.heap.size w0 W) (hl : rows.length + m ≤ 1000000)
    (h : ∀ v1 w1, (Kd.raw 1).R 29 w1 w0.heap.size (fun _ => True) v1 (rows ++ news) → Below w0.heap.size w0 w1 → W.grownBy w1 v.ownBlock → K (a.put o.dst v1) w1) : if Region.wanted o (yielded ops a.tmps) = true then Oper.wp Tryd.prog o a W K Q else K (a.put o.dst undef) W :=
  Kd.R_append_rows_step (Kd.raw 1) (w0 := w0) w0.heap.size hw s x 24 29 (.slice none 0 0) 24 ho Tryd.underlying24 info29 rfl (by decide) (by decide) v rows news A m c (fun _ => True) (fun _ => False) hs hx hR hN (fun _ _ hk => hk) (fun _ hk => hk.elim) (fun _ _ => trivial) hB hB.size (by omega) (fun v1 w1 hr hb hg _ => h v1 w1 hr hb hg)
end
theorem grown_cell {W w1 : World} {g g1 : Nat} {ob : Obj} (hg : W.grownBy w1 (some g1)) (h : W.heap[g]? = some ob) (hne : g ≠ g1) : w1.heap[g]? = some ob :=
  (hg.block g (Array.getElem?_eq_some_iff.1 h).1 (fun e => hne (Option.some.inj e))).trans h
theorem two_last (W : World) (o1 o2 : Obj) : ((W.alloc o1).alloc o2).heap[W.heap.size + 1]? = some o2 := by
  have h := heap_alloc_last (W.alloc o1) o2
  rwa [show (W.alloc o1).heap.size = W.heap.size + 1 from Array.size_push _] at h
theorem two_first (W : World) (o1 o2 : Obj) : ((W.alloc o1).alloc o2).heap[W.heap.size]? = some o1 :=
  blk_below (heap_alloc_last W o1) (below_alloc (Below.refl _ _) o2)
theorem asked_C {w : World} {base : Nat} {A : Option Addr} {n c : Nat} {xs : List (List Int)} {rows : List (List Value)} (h : (Kd.raw 1).R 29 w base (fun _ => True) (.slice A n c) rows) (hI : Items w xs rows) : n = xs.length ∧ n ≤ c ∧ Kd.C (Kd.slice 5 (Kd.int .u8)) w A n xs := by
  obtain ⟨h1, h2, h3⟩ := Kd.R_reads' h
  rw [← h1] at h3
  exact ⟨h1.trans hI.1, h2, C_of_items h3 hI⟩
section
variable {ops : Array Oper} {o : Oper} {a : Act} {Q : Exit → Act → World → Prop} {K : Act → World → Prop} {W w0 : World}
/-- append(v, item), as a step of a region that draws. -/
theorem app_item (hw : Region.wanted o (yielded ops a.tmps) = true) (s x : Operand) (ho : o.op = .call { callee := .builtin .append, args := #[s, x], argTypes := #[24, 24] }) (v : Value) (xs : List (List Int)) (rows : List (List Value)) (b : List Int) (A0 : Option Addr) (c0 g k : Nat) (hs : a.eval s = v) (hx : a.eval x = .slice (some ⟨g, 0, none⟩) 1 1)
    (hg : W.heap[g]? = some (.cells #[.slice A0 b.length c0] 29 (0, 0))) (hR : (Kd.raw 1).R 29 W w0.heap.size (fun _ => True) v rows) (hI : Items w0 xs rows) (hb : Kd.C (Kd.int .u8) w0 A0 b.length b) (hc : b.length ≤ c0) (hB : Below w0.heap.size w0 W) (hk : xs.length = k) (hl : k ≤ 1000)
    (h : ∀ A2 c2 w2, Kd.C (Kd.slice 5 (Kd.int .u8)) w2 A2 (k + 1) (xs ++ [b]) → Below w0.heap.size w0 w2 → K (a.put o.dst (.slice A2 (k + 1) c2)) w2) : if Region.wanted o (yielded ops a.tmps) = true then Oper.wp Tryd.prog o a W K Q else K (a.put o.dst undef) W := by
  refine app_rows hw s x ho v rows [[.slice A0 b.length c0]] _ 1 1 hs hx hR (one_C hg rfl) hB (by have := hI.1; omega) fun v1 w1 hr hb1 _ => ?_
  obtain ⟨A2, c2, rfl⟩ := Kd.R_slice hr
  have hI2 : Items w1 (xs ++ [b]) (rows ++ [[.slice A0 b.length c0]]) := (hI.below hb1).snoc ⟨A0, c0, rfl, hc, Kd.C_below hb hb1⟩
  obtain ⟨e, _, hC⟩ := asked_C hr hI2
  rw [e] at hC ⊢
  have e2 : (xs ++ [b]).length = k + 1 := by rw [List.length_append, hk]; rfl
  rw [e2] at hC ⊢
  exact h A2 c2 w1 hC hb1
end
end Go.Proofs.YtfhkkojdaejnjaaDoor.Gcs
namespace Go.Proofs.YtfhkkojdaejnjaaDoor.Gcs
open Go.RowKit Go.Proofs.YtfhkkojdaejnjaaDoor.Hand Go.Proofs.YtfhkkojdaejnjaaDoor.Buf Go.Proofs.YtfhkkojdaejnjaaDoor.PFnForms Go.Proofs.YtfhkkojdaejnjaaDoorW.PrintWords Go.Proofs.YtfhkkojdaejnjaaDoorW.PrintLast Go.Proofs.YtfhkkojdaejnjaaDoorW.PrintMore

set_option maxHeartbeats 4000000 in
/-- The guards, where one of them lets the input pass. -/
theorem any_stop (p m : Int) (X : Array Value) (A B : Option Addr) (n c k cB : Nat) (a : Int) (w : World) (b1 b2 b3 b4 b5 : Bool)
    (H1 : ∀ w1, Below w.heap.size w w1 → Calls Tryd.prog 6 #[.slice A n c] w1 fun e w' => e = .returned (.bool b1) ∧ Below w1.heap.size w1 w')
    (H4 : ∀ w1, Below w.heap.size w w1 → Calls Tryd.prog 6 #[.slice B k cB] w1 fun e w' => e = .returned (.bool b4) ∧ Below w1.heap.size w1 w')
    (H2 : ∀ w1, Below w.heap.size w w1 → Calls Tryd.prog 7 #[.int .u8 p, .int .u64 m] w1 fun e w' => e = .returned (.bool b2) ∧ Below w1.heap.size w1 w')
    (H3 : ∀ w1, Below w.heap.size w w1 → Calls Tryd.prog 8 #[.slice A n c] w1 fun e w' => e = .returned (.bool b3) ∧ Below w1.heap.size w1 w')
    (H5 : ∀ w1, Below w.heap.size w w1 → Calls Tryd.prog 8 #[.slice B k cB] w1 fun e w' => e = .returned (.bool b5) ∧ Below w1.heap.size w1 w')
    (hstop : ¬ (b1 = true ∧ b4 = true ∧ b2 = true ∧ 1 ≤ n ∧ k ≤ 19 ∧ b3 = true ∧ b5 = true ∧ 0 ≤ a)) :
    Calls Tryd.prog 4 #[.int .u8 p, .int .u64 m, .agg X, .slice A n c, .slice B k cB, .int .i64 a] w fun e w' => e = .returned (.bool true) ∧ Below w.heap.size w w' := by
  have HB := Aside0.mk (Below.refl w.heap.size w)
  have H1 := Aside0.mk H1
  have H2 := Aside0.mk H2
  have H3 := Aside0.mk H3
  have H4 := Aside0.mk H4
  have H5 := Aside0.mk H5
  cases b1
  · clear hstop
    go_enter Tryd.func4, Tryd.ntmps4
    go_wp2_with (first
      | ((with_reducible refine gate_dst (N := 8) rfl ?_); refine box_event ?hg (N := 8) ?hd (cs := X) (t := 23) ?hr ?_; (case hd => rfl); (case hg => rfl); (case hr => first | (go_simp; done) | (go_simp; rfl)); intro gk hg w1 hbox hb1; have HB := Aside0.mk (below_step HB.out hb1); clear hg hbox hb1)
      | (go_at_call 6; (first | (with_reducible refine (H1.out _ HB.out).mono ?_) | (with_reducible refine (H4.out _ HB.out).mono ?_)); rintro e2 w2 ⟨rfl, hb2⟩; have HB := Aside0.mk (below_step HB.out hb2); clear hb2)
      | (go_at_call 7; (with_reducible refine (H2.out _ HB.out).mono ?_); rintro e3 w3 ⟨rfl, hb3⟩; have HB := Aside0.mk (below_step HB.out hb3); clear hb3)
      | (go_at_call 8; (first | (with_reducible refine (H3.out _ HB.out).mono ?_) | (with_reducible refine (H5.out _ HB.out).mono ?_)); rintro e4 w4 ⟨rfl, hb4⟩; have HB := Aside0.mk (below_step HB.out hb4); clear hb4)
      | fail)
    exact bodyPost_ret (results_tmp rfl _ _ _) rfl ⟨rfl, HB.out⟩
  cases b4
  · clear hstop
    go_enter Tryd.func4, Tryd.ntmps4
    go_wp2_with (first
      | ((with_reducible refine gate_dst (N := 8) rfl ?_); refine box_event ?hg (N := 8) ?hd (cs := X) (t := 23) ?hr ?_; (case hd => rfl); (case hg => rfl); (case hr => first | (go_simp; done) | (go_simp; rfl)); intro gk hg w1 hbox hb1; have HB := Aside0.mk (below_step HB.out hb1); clear hg hbox hb1)
      | (go_at_call 6; (first | (with_reducible refine (H1.out _ HB.out).mono ?_) | (with_reducible refine (H4.out _ HB.out).mono ?_)); rintro e2 w2 ⟨rfl, hb2⟩; have HB := Aside0.mk (below_step HB.out hb2); clear hb2)
      | (go_at_call 7; (with_reducible refine (H2.out _ HB.out).mono ?_); rintro e3 w3 ⟨rfl, hb3⟩; have HB := Aside0.mk (below_step HB.out hb3); clear hb3)
      | (go_at_call 8; (first | (with_reducible refine (H3.out _ HB.out).mono ?_) | (with_reducible refine (H5.out _ HB.out).mono ?_)); rintro e4 w4 ⟨rfl, hb4⟩; have HB := Aside0.mk (below_step HB.out hb4); clear hb4)
      | fail)
    exact bodyPost_ret (results_tmp rfl _ _ _) rfl ⟨rfl, HB.out⟩
  cases b2
  · clear hstop
    go_enter Tryd.func4, Tryd.ntmps4
    go_wp2_with (first
      | ((with_reducible refine gate_dst (N := 8) rfl ?_); refine box_event ?hg (N := 8) ?hd (cs := X) (t := 23) ?hr ?_; (case hd => rfl); (case hg => rfl); (case hr => first | (go_simp; done) | (go_simp; rfl)); intro gk hg w1 hbox hb1; have HB := Aside0.mk (below_step HB.out hb1); clear hg hbox hb1)
      | (go_at_call 6; (first | (with_reducible refine (H1.out _ HB.out).mono ?_) | (with_reducible refine (H4.out _ HB.out).mono ?_)); rintro e2 w2 ⟨rfl, hb2⟩; have HB := Aside0.mk (below_step HB.out hb2); clear hb2)
      | (go_at_call 7; (with_reducible refine (H2.out _ HB.out).mono ?_); rintro e3 w3 ⟨rfl, hb3⟩; have HB := Aside0.mk (below_step HB.out hb3); clear hb3)
      | (go_at_call 8; (first | (with_reducible refine (H3.out _ HB.out).mono ?_) | (with_reducible refine (H5.out _ HB.out).mono ?_)); rintro e4 w4 ⟨rfl, hb4⟩; have HB := Aside0.mk (below_step HB.out hb4); clear hb4)
      | fail)
    exact bodyPost_ret (results_tmp rfl _ _ _) rfl ⟨rfl, HB.out⟩
  by_cases hn : n = 0
  · subst hn
    clear hstop
    go_enter Tryd.func4, Tryd.ntmps4
    go_wp2_with (first
      | ((with_reducible refine gate_dst (N := 8) rfl ?_); refine box_event ?hg (N := 8) ?hd (cs := X) (t := 23) ?hr ?_; (case hd => rfl); (case hg => rfl); (case hr => first | (go_simp; done) | (go_simp; rfl)); intro gk hg w1 hbox hb1; have HB := Aside0.mk (below_step HB.out hb1); clear hg hbox hb1)
      | (go_at_call 6; (first | (with_reducible refine (H1.out _ HB.out).mono ?_) | (with_reducible refine (H4.out _ HB.out).mono ?_)); rintro e2 w2 ⟨rfl, hb2⟩; have HB := Aside0.mk (below_step HB.out hb2); clear hb2)
      | (go_at_call 7; (with_reducible refine (H2.out _ HB.out).mono ?_); rintro e3 w3 ⟨rfl, hb3⟩; have HB := Aside0.mk (below_step HB.out hb3); clear hb3)
      | (go_at_call 8; (first | (with_reducible refine (H3.out _ HB.out).mono ?_) | (with_reducible refine (H5.out _ HB.out).mono ?_)); rintro e4 w4 ⟨rfl, hb4⟩; have HB := Aside0.mk (below_step HB.out hb4); clear hb4)
      | fail)
    exact bodyPost_ret (results_tmp rfl _ _ _) rfl ⟨rfl, HB.out⟩
  have hn1 : ¬ (n : Int) < 1 := by omega
  by_cases hk : 19 < k
  · have hk1 : (19 : Int) < k := by omega
    clear hstop
    go_enter Tryd.func4, Tryd.ntmps4
    go_wp2_with (first
      | ((with_reducible refine gate_dst (N := 8) rfl ?_); refine box_event ?hg (N := 8) ?hd (cs := X) (t := 23) ?hr ?_; (case hd => rfl); (case hg => rfl); (case hr => first | (go_simp; done) | (go_simp; rfl)); intro gk hg w1 hbox hb1; have HB := Aside0.mk (below_step HB.out hb1); clear hg hbox hb1)
      | (go_at_call 6; (first | (with_reducible refine (H1.out _ HB.out).mono ?_) | (with_reducible refine (H4.out _ HB.out).mono ?_)); rintro e2 w2 ⟨rfl, hb2⟩; have HB := Aside0.mk (below_step HB.out hb2); clear hb2)
      | (go_at_call 7; (with_reducible refine (H2.out _ HB.out).mono ?_); rintro e3 w3 ⟨rfl, hb3⟩; have HB := Aside0.mk (below_step HB.out hb3); clear hb3)
      | (go_at_call 8; (first | (with_reducible refine (H3.out _ HB.out).mono ?_) | (with_reducible refine (H5.out _ HB.out).mono ?_)); rintro e4 w4 ⟨rfl, hb4⟩; have HB := Aside0.mk (below_step HB.out hb4); clear hb4)
      | fail)
    exact bodyPost_ret (results_tmp rfl _ _ _) rfl ⟨rfl, HB.out⟩
  have hk1 : ¬ (19 : Int) < k := by omega
  cases b3
  · clear hstop
    go_enter Tryd.func4, Tryd.ntmps4
    go_wp2_with (first
      | ((with_reducible refine gate_dst (N := 8) rfl ?_); refine box_event ?hg (N := 8) ?hd (cs := X) (t := 23) ?hr ?_; (case hd => rfl); (case hg => rfl); (case hr => first | (go_simp; done) | (go_simp; rfl)); intro gk hg w1 hbox hb1; have HB := Aside0.mk (below_step HB.out hb1); clear hg hbox hb1)
      | (go_at_call 6; (first | (with_reducible refine (H1.out _ HB.out).mono ?_) | (with_reducible refine (H4.out _ HB.out).mono ?_)); rintro e2 w2 ⟨rfl, hb2⟩; have HB := Aside0.mk (below_step HB.out hb2); clear hb2)
      | (go_at_call 7; (with_reducible refine (H2.out _ HB.out).mono ?_); rintro e3 w3 ⟨rfl, hb3⟩; have HB := Aside0.mk (below_step HB.out hb3); clear hb3)
      | (go_at_call 8; (first | (with_reducible refine (H3.out _ HB.out).mono ?_) | (with_reducible refine (H5.out _ HB.out).mono ?_)); rintro e4 w4 ⟨rfl, hb4⟩; have HB := Aside0.mk (below_step HB.out hb4); clear hb4)
      | fail)
    exact bodyPost_ret (results_tmp rfl _ _ _) rfl ⟨rfl, HB.out⟩
  cases b5
  · clear hstop
    go_enter Tryd.func4, Tryd.ntmps4
    go_wp2_with (first
      | ((with_reducible refine gate_dst (N := 8) rfl ?_); refine box_event ?hg (N := 8) ?hd (cs := X) (t := 23) ?hr ?_; (case hd => rfl); (case hg => rfl); (case hr => first | (go_simp; done) | (go_simp; rfl)); intro gk hg w1 hbox hb1; have HB := Aside0.mk (below_step HB.out hb1); clear hg hbox hb1)
      | (go_at_call 6; (first | (with_reducible refine (H1.out _ HB.out).mono ?_) | (with_reducible refine (H4.out _ HB.out).mono ?_)); rintro e2 w2 ⟨rfl, hb2⟩; have HB := Aside0.mk (below_step HB.out hb2); clear hb2)
      | (go_at_call 7; (with_reducible refine (H2.out _ HB.out).mono ?_); rintro e3 w3 ⟨rfl, hb3⟩; have HB := Aside0.mk (below_step HB.out hb3); clear hb3)
      | (go_at_call 8; (first | (with_reducible refine (H3.out _ HB.out).mono ?_) | (with_reducible refine (H5.out _ HB.out).mono ?_)); rintro e4 w4 ⟨rfl, hb4⟩; have HB := Aside0.mk (below_step HB.out hb4); clear hb4)
      | fail)
    exact bodyPost_ret (results_tmp rfl _ _ _) rfl ⟨rfl, HB.out⟩
  by_cases ha : a < 0
  · clear hstop
    go_enter Tryd.func4, Tryd.ntmps4
    go_wp2_with (first
      | ((with_reducible refine gate_dst (N := 8) rfl ?_); refine box_event ?hg (N := 8) ?hd (cs := X) (t := 23) ?hr ?_; (case hd => rfl); (case hg => rfl); (case hr => first | (go_simp; done) | (go_simp; rfl)); intro gk hg w1 hbox hb1; have HB := Aside0.mk (below_step HB.out hb1); clear hg hbox hb1)
      | (go_at_call 6; (first | (with_reducible refine (H1.out _ HB.out).mono ?_) | (with_reducible refine (H4.out _ HB.out).mono ?_)); rintro e2 w2 ⟨rfl, hb2⟩; have HB := Aside0.mk (below_step HB.out hb2); clear hb2)
      | (go_at_call 7; (with_reducible refine (H2.out _ HB.out).mono ?_); rintro e3 w3 ⟨rfl, hb3⟩; have HB := Aside0.mk (below_step HB.out hb3); clear hb3)
      | (go_at_call 8; (first | (with_reducible refine (H3.out _ HB.out).mono ?_) | (with_reducible refine (H5.out _ HB.out).mono ?_)); rintro e4 w4 ⟨rfl, hb4⟩; have HB := Aside0.mk (below_step HB.out hb4); clear hb4)
      | fail)
    exact bodyPost_ret (results_tmp rfl _ _ _) rfl ⟨rfl, HB.out⟩
  exact absurd ⟨rfl, rfl, rfl, Nat.pos_of_ne_zero hn, Nat.le_of_not_lt hk, rfl, rfl, Int.not_lt.1 ha⟩ hstop
end Go.Proofs.YtfhkkojdaejnjaaDoor.Gcs
namespace Go.Proofs.YtfhkkojdaejnjaaDoor.Gcs
open Go.RowKit Go.Proofs.YtfhkkojdaejnjaaDoor.Hand Go.Proofs.YtfhkkojdaejnjaaDoor.Buf Go.Proofs.YtfhkkojdaejnjaaDoor.PFnForms Go.Proofs.YtfhkkojdaejnjaaDoorW.PrintWords Go.Proofs.YtfhkkojdaejnjaaDoorW.PrintLast Go.Proofs.YtfhkkojdaejnjaaDoorW.PrintMore

set_option maxRecDepth 100000 in
set_option maxHeartbeats 16000000 in
theorem any_main (ad : Addr) (q : Nat) (m : Int) (ks : List Int) (A : Option Addr) (n c : Nat) (items : List (List Int)) (B : Option Addr) (k cB : Nat) (others : List (List Int)) (a : Int) (w : World) (hE : Eof w ad) (hk : ks.length = 16) (hkb : Bytes ks)
    (hC : Kd.C (Kd.slice 5 (Kd.int .u8)) w A n items) (hn : items.length = n) (hc : n ≤ c) (h1 : 1 ≤ n) (h20 : n ≤ 20) (h60 : ∀ x ∈ items, x.length ≤ 60 ∧ Bytes x)
    (hCo : Kd.C (Kd.slice 5 (Kd.int .u8)) w B k others) (hno : others.length = k) (hk19 : k ≤ 19) (h60o : ∀ x ∈ others, x.length ≤ 60 ∧ Bytes x) (ha : 0 ≤ a)
    (hp1 : 1 ≤ q) (hp24 : q ≤ 24) (hm1 : 1 ≤ m) (hm : m ≤ 16 * 2 ^ q) (hcd : impl_coded.f (q : Int) m = some true)
    (H1 : ∀ w1, Below w.heap.size w w1 → Calls Tryd.prog 6 #[.slice A n c] w1 fun e w' => e = .returned (.bool true) ∧ Below w1.heap.size w1 w')
    (H4 : ∀ w1, Below w.heap.size w w1 → Calls Tryd.prog 6 #[.slice B k cB] w1 fun e w' => e = .returned (.bool true) ∧ Below w1.heap.size w1 w')
    (H2 : ∀ w1, Below w.heap.size w w1 → Calls Tryd.prog 7 #[.int .u8 (q : Int), .int .u64 m] w1 fun e w' => e = .returned (.bool true) ∧ Below w1.heap.size w1 w')
    (H3 : ∀ w1, Below w.heap.size w w1 → Calls Tryd.prog 8 #[.slice A n c] w1 fun e w' => e = .returned (.bool true) ∧ Below w1.heap.size w1 w')
    (H5 : ∀ w1, Below w.heap.size w w1 → Calls Tryd.prog 8 #[.slice B k cB] w1 fun e w' => e = .returned (.bool true) ∧ Below w1.heap.size w1 w') :
    Calls Tryd.prog 4 #[.int .u8 (q : Int), .int .u64 m, .agg (ks.map (Value.int .u8)).toArray, .slice A n c, .slice B k cB, .int .i64 a] w fun e w' => e = .returned (.bool true) ∧ Below w.heap.size w w' := by
  obtain ⟨g1, g2, g3⟩ := f_facts hp24 hm1 hm h1 h20
  have hp2 : (2 : Int) ^ q ≤ 16777216 := by
    have h : (2 : Nat) ^ q ≤ 16777216 := Nat.le_trans (Nat.pow_le_pow_right (by decide) hp24) (by decide)
    have h2 := Int.ofNat_le.2 h
    rw [Int.natCast_pow] at h2
    exact h2
  have hmd2 : (n : Int) * m ≤ 5368709120 := by omega
  obtain ⟨v1, v2, v3⟩ := valsI_facts ks ((n : Int) * m) g2 items
  obtain ⟨D, hD⟩ : ∃ D, D = datS q (valsI ks ((n : Int) * m) items) n := ⟨_, rfl⟩
  have hd2 : D.length ≤ 870 := by rw [hD]; exact (dataI_length (ks := ks) (items := items) hp24 g3 g2 h1 h20).2
  obtain ⟨j, hj⟩ : ∃ j : Nat, a.tmod (n : Int) = (j : Int) := ⟨(a % n).toNat, by rw [Int.tmod_eq_emod_of_nonneg ha, Int.toNat_of_nonneg (Int.emod_nonneg _ (by omega))]⟩
  have hjn : j < n := by
    have h := Int.emod_lt_of_pos a (show (0 : Int) < n by omega)
    rw [← Int.tmod_eq_emod_of_nonneg ha, hj] at h
    omega
  have HBI : Aside0 (∀ W, Below w.heap.size w W → Calls Tryd.prog 9 #[.int .u8 (q : Int), .int .u64 m, .agg (ks.map (Value.int .u8)).toArray, .slice A n c] W (IsBuilt W n q m D)) := ⟨fun W hb => by rw [hD]; exact implBuild_calls q m _ ks A n c items W hk hkb (Kd.C_below hC hb) hn hc h1 h20 h60 hp1 hp24 g1 g2 g3 hcd⟩
  have HHA : Aside0 (∀ (how : Nat) AD cD A2 c2 W, 1 ≤ how → how < 4 → Below w.heap.size w W → Kd.C (Kd.int .u8) W AD D.length D → D.length ≤ cD → Kd.C (Kd.slice 5 (Kd.int .u8)) W A2 (k + 1) (others ++ [items.getD j []]) → Calls Tryd.prog 12 #[.int .i64 how, .agg #[.int .u32 (n : Int), .int .u8 (q : Int), .int .u64 m, .slice AD D.length cD], .agg (ks.map (Value.int .u8)).toArray, .slice A2 ((k + 1 : Nat)) c2] W (IsHas W)) := ⟨fun how AD cD A2 c2 W hh1 hh hb hCD hcD hCk => by
    obtain ⟨i0, hi0, hi1⟩ := vals_has ks ((n : Int) * m) g2 items j (by omega)
    have hmem : items.getD j [] ∈ items := by rw [List.getD_eq_getElem?_getD, List.getElem?_eq_getElem (by omega)]; exact List.getElem_mem _
    rw [hD] at hCD hcD hd2 ⊢
    exact has_calls how ad q n m _ AD cD _ ks A2 (k + 1) c2 (others ++ [items.getD j []]) W i0 k hh (fun h => by omega) hCD hcD (by rw [v2, hn]) v1 v3 h20 hp24 g1 hmd2 (by omega) hcd (hE.below hb) hk hkb hCk (by rw [List.length_append, hno]; rfl) (by omega) (fun x hx => by
      rcases List.mem_append.1 hx with hx | hx
      · exact h60o x hx
      · rw [List.mem_singleton.1 hx]; exact h60 _ hmem) (by omega) (by omega) (by rw [hi1, List.getD_eq_getElem?_getD (l := others ++ _), List.getElem?_append_right (by omega), hno, Nat.sub_self]; rfl)⟩
  have hn1 : ¬ (n : Int) < 1 := by omega
  have hk1 : ¬ (19 : Int) < k := by omega
  have ha0 : ¬ a < 0 := by omega
  obtain ⟨cs, hX⟩ : ∃ cs, cs = ks.map (Value.int .u8) := ⟨_, rfl⟩
  rw [← hX] at HBI HHA ⊢
  have HXS : Aside0 ((Tryd.prog.info? 23).map (·.size) = some cs.toArray.size) := ⟨by rw [show (Tryd.prog.info? 23).map (·.size) = some 16 by kernel_rfl, hX]; simp [hk]⟩
  obtain ⟨l, hl⟩ : ∃ l, l = D.length := ⟨_, rfl⟩
  have HL := Aside0.mk hl
  rw [← hl] at HHA
  have HB := Aside0.mk (Below.refl w.heap.size w)
  have H1 := Aside0.mk H1
  have H2 := Aside0.mk H2
  have H3 := Aside0.mk H3
  have H4 := Aside0.mk H4
  have H5 := Aside0.mk H5
  have HC := Aside0.mk hC
  have HCo := Aside0.mk hCo
  have HNo := Aside0.mk hno
  have HKB : Aside0 (k ≤ 19) := ⟨hk19⟩
  have HJ : Aside0 (a.tmod (n : Int) = (j : Int)) := ⟨hj⟩
  have HN := Aside0.mk hn
  clear hX hE hk hkb hC hc h60 hp1 hp24 hm1 hm hcd g1 g2 g3 hD hd2 hl v1 v2 v3 hmd2 hp2 hCo hno h60o hk19 hj hn
  go_enter Tryd.func4, Tryd.ntmps4
  go_wp2_with (first
    | ((with_reducible refine gate_dst (N := 8) rfl ?_); refine box_event ?hg (N := 8) ?hd (cs := cs.toArray) (t := 23) ?hr ?_; (case hd => rfl); (case hg => rfl); (case hr => first | (go_simp; done) | (go_simp; rfl)); intro gk hg w1 hbox hb1; have HK := Aside0.mk hbox; have HB := Aside0.mk (below_step HB.out hb1); clear hg hbox hb1)
    | (go_at_call 6; (first | (with_reducible refine (H1.out _ HB.out).mono ?_) | (with_reducible refine (H4.out _ HB.out).mono ?_)); rintro e2 w2 ⟨rfl, hb2⟩; have HK := Aside0.mk (blk_below HK.out hb2); have HB := Aside0.mk (below_step HB.out hb2); clear hb2)
    | (go_at_call 7; (with_reducible refine (H2.out _ HB.out).mono ?_); rintro e3 w3 ⟨rfl, hb3⟩; have HK := Aside0.mk (blk_below HK.out hb3); have HB := Aside0.mk (below_step HB.out hb3); clear hb3)
    | (go_at_call 8; (first | (with_reducible refine (H3.out _ HB.out).mono ?_) | (with_reducible refine (H5.out _ HB.out).mono ?_)); rintro e4 w4 ⟨rfl, hb4⟩; have HK := Aside0.mk (blk_below HK.out hb4); have HB := Aside0.mk (below_step HB.out hb4); clear hb4)
    | ((with_reducible show wpList _ _ _ _ _ _); (with_reducible refine wpList_load_row (o := ⟨some 58, _, _, _, _, _⟩) rfl 23 (.tmp 8) rfl gk rfl 23 cs.toArray (0, 0) _ HK.out Tryd.underlying23 rfl HXS.out ?_))
    | (go_at_call 9; refine (HBI.out _ HB.out).mono ?_; intro e5 w5 hq; unfold IsBuilt at hq; obtain ⟨AD, cD, rfl, hcD, hC5, hb5⟩ := hq; rw [← HL.out] at hC5 hcD ⊢; have HK5 := Aside0.mk (blk_below HK.out hb5); have HC5 := Aside0.mk hC5; have HCD := Aside0.mk hcD; have HB5 := Aside0.mk (below_step HB.out hb5); clear hC5 hb5 hcD)
    | ((with_reducible refine gate_dst (N := 13) rfl ?_); refine box_event ?hg (N := 13) ?hd (cs := #[.int .u32 0, .int .u8 0, .int .u64 0, .slice none 0 0]) (t := 31) ?hr ?_; (case hd => rfl); (case hg => rfl); (case hr => first | (go_simp; done) | (go_simp; rfl)); intro g hg w9 hbox hb9; have HG9 := Aside0.mk hbox; have HGE : Aside0 (w5.heap.size ≤ g) := ⟨by rw [hg]; exact Nat.le_refl _⟩; have HW9 := Aside0.mk hb9; clear hg hbox hb9)
    | ((with_reducible refine gate_store (t := 31) (p := 13) rfl ?_); refine blk_store31 rfl rfl rfl HG9.out HW9.out HGE.out rfl rfl ?_; intro wa hG hB; have HG := Aside0.mk hG; have HBa := Aside0.mk (below_step HB5.out hB); have HKa := Aside0.mk (blk_below HK5.out hB); have HDa := Aside0.mk (Kd.C_below HC5.out hB); clear hG hB)
    | fail)
  clear H1 H2 H3 H4 H5 HBI HC5 HB5 HK5 HG9 HW9 HGE
  obtain ⟨adi, A0, c0, rfl, kd, hc0, hCb⟩ := at_L1 (Kd.C_below HC.out HBa.out) (j : Int) (by omega) (by omega)
  have hrd : rd_L1 items (j : Int) = items.getD j [] := by unfold rd_L1; rw [Int.toNat_natCast]
  rw [hrd] at kd hc0 hCb
  rw [Int.toNat_natCast] at kd
  have HCb := Aside0.mk hCb
  clear hrd hCb HC HN
  generalize items.getD j [] = b at kd hc0 HCb HHA
  have hrem := HJ.out
  have hn0 : ¬ (n : Int) = 0 := by omega
  have hn00 : ¬ n = 0 := by omega
  have hem : a % (n : Int) = (j : Int) := by rw [← Int.tmod_eq_emod_of_nonneg ha]; exact hrem
  have hjn2 : (j : Int) < (n : Int) := by omega
  have hj02 : (0 : Int) ≤ (j : Int) := by omega
  obtain ⟨nb, hnb, hnc⟩ := items_of_C (Kd.C_below HCo.out HBa.out)
  have HIt := Aside0.mk hnb
  have HNc := Aside0.mk hnc
  have HNl : Aside0 (nb.length ≤ 19) := ⟨by rw [hnb.1, HNo.out]; exact HKB.out⟩
  clear hnb hnc
  have HBd : Aside0 (Below wa.heap.size wa wa.drew) := ⟨below_drew (Below.refl _ _)⟩
  have kdd : wa.drew.cell? (adi.add j) = some (.slice A0 b.length c0) := kd
  go_cut [15] from 65 (fun s15 wx => ∃ A2 c2, s15 = .slice A2 ((k + 1 : Nat)) c2 ∧ Kd.C (Kd.slice 5 (Kd.int .u8)) wx A2 (k + 1) (others ++ [b]) ∧ Aside0 (Below wa.heap.size wa wx))
  case first =>
    go_region_held3 (fun W => W.cell? (adi.add j) = some (.slice A0 b.length c0)) (first | exact kdd | exact pw_cell_below (below_drew (below_alloc (below_alloc (Below.refl _ _) _) _)) kd | exact pw_cell_below (below_alloc (below_alloc (below_drew (Below.refl _ _)) _) _) kd | exact pw_cell_below HB2.out kd | exact pw_cell_below HB1.out kd | exact pw_cell_below (below_alloc HB1.out _) kd | exact pw_cell_below (below_drew (below_alloc (Below.refl _ _) _)) kd | exact pw_cell_below (below_alloc (below_drew (Below.refl _ _)) _) kd) (first
      | (refine app_rows (w0 := wa) rfl (.tmp 65) (.tmp 66) rfl _ [] nb B k cB rfl rfl (none_R wa.drew wa.heap.size (Nat.le_refl _)) (Kd.C_below HNc.out (below_alloc (below_drew (Below.refl _ _)) _)) (below_alloc (below_drew (Below.refl _ _)) _) (by have := HKB.out; show 0 + k ≤ _; omega) ?_; intro v1 w1 hR1 hb1 hg1; have HR1 := Aside0.mk hR1; have HB1 := Aside0.mk hb1; have HG1 := Aside0.mk hg1; clear hR1 hb1 hg1)
      | (refine app_rows (w0 := wa) rfl (.tmp 65) (.tmp 66) rfl _ [] nb B k cB rfl rfl (Kd.R_below (none_R wa.drew wa.heap.size (Nat.le_refl _)) (below_alloc (Below.refl _ _) _)) (Kd.C_below HNc.out (below_alloc (below_alloc (below_drew (Below.refl _ _)) _) _)) (below_alloc (below_alloc (below_drew (Below.refl _ _)) _) _) (by have := HKB.out; show 0 + k ≤ _; omega) ?_; intro v1 w1 hR1 hb1 hg1; have HR1 := Aside0.mk hR1; have HB1 := Aside0.mk hb1; have HX1 := Aside0.mk (grown_cell hg1 (two_last wa.drew _ (.cells #[.slice A0 b.length c0] 29)) (by show wa.heap.size + 1 ≠ wa.heap.size; omega)); clear hR1 hb1 hg1)
      | (refine app_rows (w0 := wa) rfl (.tmp 65) (.tmp 66) rfl _ [] nb B k cB (by first | rfl | (simp [Act.eval]; done)) rfl (none_R (wa.drew.alloc (.cells #[.slice A0 b.length c0] 29)) wa.heap.size (below_alloc (below_drew (Below.refl _ _)) _).size) (Kd.C_below HNc.out (below_alloc (below_alloc (below_drew (Below.refl _ _)) _) _)) (below_alloc (below_alloc (below_drew (Below.refl _ _)) _) _) (by have := HKB.out; show 0 + k ≤ _; omega) ?_; intro v1 w1 hR1 hb1 hg1; have HR1 := Aside0.mk hR1; have HB1 := Aside0.mk hb1; have HX1 := Aside0.mk (grown_cell hg1 (two_first wa.drew (.cells #[.slice A0 b.length c0] 29) _) (by show wa.heap.size ≠ (wa.heap.push _).size; rw [Array.size_push]; omega)); clear hR1 hb1 hg1)
      | (refine app_item (w0 := wa) rfl (.tmp 67) (.tmp 75) rfl _ others nb b A0 c0 _ k rfl rfl (by first | exact HX1.out | (simp; exact HX1.out) | simpa using HX1.out) HR1.out HIt.out HCb.out hc0 HB1.out HNo.out (by have := HKB.out; omega) ?_; intro A2 c2 w2 hC2 hb2; have HC2 := Aside0.mk hC2; have HB2 := Aside0.mk hb2; clear hC2 hb2)
      | (refine app_item (w0 := wa) rfl (.tmp 67) (.tmp 75) rfl _ others nb b A0 c0 w1.heap.size k rfl rfl (heap_alloc_last w1 _) (Kd.R_below HR1.out (below_alloc (Below.refl _ _) _)) HIt.out HCb.out hc0 (below_alloc HB1.out _) HNo.out (by have := HKB.out; omega) ?_; intro A2 c2 w2 hC2 hb2; have HC2 := Aside0.mk hC2; have HB2 := Aside0.mk hb2; clear hC2 hb2))
    all_goals (go_wp2_with fail; go_meet; exact ⟨A2, c2, rfl, HC2.out, HB2⟩)
  obtain ⟨A2, c2, rfl, hCa, HBc⟩ := hcut
  have HCa := Aside0.mk hCa
  have HHK : Aside0 (∀ (how : Nat) W, 1 ≤ how → how < 4 → Below wc.heap.size wc W → Calls Tryd.prog 12 #[.int .i64 how, .agg #[.int .u32 (n : Int), .int .u8 (q : Int), .int .u64 m, .slice AD l cD], .agg cs.toArray, .slice A2 ((k + 1 : Nat)) c2] W (IsHas W)) := ⟨fun how W hw1 hw4 hb => HHA.out how AD cD A2 c2 W hw1 hw4 (below_step HBa.out (below_step HBc.out hb)) (Kd.C_below HDa.out (below_step HBc.out hb)) HCD.out (Kd.C_below HCa.out hb)⟩
  have HGc := Aside0.mk (blk_below HG.out HBc.out)
  have HKc := Aside0.mk (blk_below HKa.out HBc.out)
  have HBB := Aside0.mk (below_step HBa.out HBc.out)
  have HB0 := Aside0.mk (Below.refl wc.heap.size wc)
  clear hCa HCa HHA HG HKa HBa HBc HDa HCD hrem hn0 hn00 hem hjn2 hj02 HBd kdd kd HIt HNc HNl HCb HJ HNo HCo hc0 hn1 hk1 ha0
  go_wp2_with fail
  go_loopw [16] (fun v16 wr => ∃ how : Nat, v16 = .int .i64 how ∧ 1 ≤ how ∧ how ≤ 4 ∧ Aside0 (Below wc.heap.size wc wr)) (fun v16 _ => 4 - (intOf v16).toNat)
  case atStart => exact ⟨1, rfl, by decide, by decide, HB0⟩
  case round =>
    obtain ⟨how, rfl, hh1, hh4, HBr⟩ := hrel
    clear HB0
    by_cases hh : how < 4
    · have HG2 := Aside0.mk (blk_below HGc.out HBr.out)
      have HK2 := Aside0.mk (blk_below HKc.out HBr.out)
      obtain ⟨k0, -⟩ := cell_of_blk HG2.out (i := 0) rfl
      obtain ⟨k1, -⟩ := cell_of_blk HG2.out (i := 1) rfl
      obtain ⟨k2, -⟩ := cell_of_blk HG2.out (i := 2) rfl
      obtain ⟨k3, -⟩ := cell_of_blk HG2.out (i := 3) rfl
      go_wp2_with (first
        | ((with_reducible show wpList _ _ _ _ _ _); (with_reducible refine wpList_load_row (o := ⟨some 84, _, _, _, _, _⟩) rfl 23 (.tmp 8) rfl gk rfl 23 cs.toArray (0, 0) _ HK2.out Tryd.underlying23 rfl HXS.out ?_))
        | (go_at_call 12; (with_reducible refine (HHK.out how _ hh1 hh HBr.out).mono ?_); intro e8 w8 hq; unfold IsHas at hq; obtain ⟨rfl, hb8⟩ := hq; have HB8 := Aside0.mk (below_step HBr.out hb8); clear hb8)
        | fail)
      go_roundw
      case rel => exact ⟨how + 1, by go_num, by omega, by omega, ⟨HB8.out⟩⟩
      case measure => first | (simp [intOf]; done) | (simp [intOf]; omega)
    · obtain rfl : how = 4 := by omega
      go_wp2_with fail
      exact bodyPost_ret (results_tmp rfl _ _ _) rfl ⟨rfl, below_step HBB.out HBr.out⟩
end Go.Proofs.YtfhkkojdaejnjaaDoor.Gcs
namespace Go.Proofs.YtfhkkojdaejnjaaDoor.Gcs
open Go.RowKit Go.Proofs.YtfhkkojdaejnjaaDoor.Hand Go.Proofs.YtfhkkojdaejnjaaDoor.Buf Go.Proofs.YtfhkkojdaejnjaaDoor.PFnForms Go.Proofs.YtfhkkojdaejnjaaDoorW.PrintWords Go.Proofs.YtfhkkojdaejnjaaDoorW.PrintLast Go.Proofs.YtfhkkojdaejnjaaDoorW.PrintMore

theorem any_law (ad : Addr) (p m : Int) (ks : List Int) (A : Option Addr) (c : Nat) (items : List (List Int)) (B : Option Addr) (cB : Nat) (others : List (List Int)) (a : Int) (w : World) (hE : w.cell? ⟨2, 0, none⟩ = some (.iface 113 (.pointer (some ad)))) (hk : ks.length = 16) (hkb : ∀ x ∈ ks, 0 ≤ x ∧ x < 256)
    (hC : Kd.C (Kd.slice 5 (Kd.int .u8)) w A items.length items) (hc : items.length ≤ c) (hib : ∀ x ∈ items, ∀ y ∈ x, 0 ≤ y ∧ y < 256) (hCo : Kd.C (Kd.slice 5 (Kd.int .u8)) w B others.length others) (hcB : others.length ≤ cB) (hob : ∀ x ∈ others, ∀ y ∈ x, 0 ≤ y ∧ y < 256) :
    Calls Tryd.prog 4 #[.int .u8 p, .int .u64 m, .agg (ks.map (Value.int .u8)).toArray, .slice A items.length c, .slice B others.length cB, .int .i64 a] w fun e w' => e = .returned (.bool true) ∧ Below w.heap.size w w' := by
  have hxl : items.length ≤ 9223372036854775807 := hC.2.1
  have hol : others.length ≤ 9223372036854775807 := hCo.2.1
  obtain ⟨k1, b1, e1, _⟩ := zz_is items hxl
  obtain ⟨k4, b4, e4, _⟩ := zz_is others hol
  obtain ⟨b2, e2, g2⟩ := coded_is p m
  obtain ⟨k3, e3⟩ := small_is items hxl
  obtain ⟨k5, e5⟩ := small_is others hol
  have H1 : ∀ w1, Below w.heap.size w w1 → Calls Tryd.prog 6 #[.slice A items.length c] w1 fun e w' => e = .returned (.bool b1) ∧ Below w1.heap.size w1 w' := fun w1 hw => (laws_zzFits2.calls k1 A c items b1 w1 (Kd.C_below hC hw) hc e1).mono fun e w' ⟨a, b⟩ => ⟨a, b.below⟩
  have H4 : ∀ w1, Below w.heap.size w w1 → Calls Tryd.prog 6 #[.slice B others.length cB] w1 fun e w' => e = .returned (.bool b4) ∧ Below w1.heap.size w1 w' := fun w1 hw => (laws_zzFits2.calls k4 B cB others b4 w1 (Kd.C_below hCo hw) hcB e4).mono fun e w' ⟨a, b⟩ => ⟨a, b.below⟩
  have H2 : ∀ w1, Below w.heap.size w w1 → Calls Tryd.prog 7 #[.int .u8 p, .int .u64 m] w1 fun e w' => e = .returned (.bool b2) ∧ Below w1.heap.size w1 w' := fun w1 _ => (laws_isCoded.calls p m b2 w1 e2).mono fun e w' ⟨a, b⟩ => ⟨a, b.below⟩
  have H3 : ∀ w1, Below w.heap.size w w1 → Calls Tryd.prog 8 #[.slice A items.length c] w1 fun e w' => e = .returned (.bool (allTo 60 items && decide (items.length ≤ 20))) ∧ Below w1.heap.size w1 w' := fun w1 hw => (spec_IsSmall.calls k3 A c items _ w1 (Kd.C_below hC hw) hc e3).mono fun e w' ⟨a, b⟩ => ⟨a, b.below⟩
  have H5 : ∀ w1, Below w.heap.size w w1 → Calls Tryd.prog 8 #[.slice B others.length cB] w1 fun e w' => e = .returned (.bool (allTo 60 others && decide (others.length ≤ 20))) ∧ Below w1.heap.size w1 w' := fun w1 hw => (spec_IsSmall.calls k5 B cB others _ w1 (Kd.C_below hCo hw) hcB e5).mono fun e w' ⟨a, b⟩ => ⟨a, b.below⟩
  by_cases hall : b1 = true ∧ b4 = true ∧ b2 = true ∧ 1 ≤ items.length ∧ others.length ≤ 19 ∧ (allTo 60 items && decide (items.length ≤ 20)) = true ∧ (allTo 60 others && decide (others.length ≤ 20)) = true ∧ 0 ≤ a
  · obtain ⟨a1, a4, a2, a3, a7, a5, a6, a8⟩ := hall
    rw [a1] at H1
    rw [a4] at H4
    rw [a2] at H2
    rw [a5] at H3
    rw [a6] at H5
    rw [Bool.and_eq_true] at a5 a6
    have h60 : ∀ x ∈ items, x.length ≤ 60 ∧ Bytes x := fun x hx => ⟨of_decide_eq_true (List.all_eq_true.1 a5.1 x hx), hib x hx⟩
    have h60o : ∀ x ∈ others, x.length ≤ 60 ∧ Bytes x := fun x hx => ⟨of_decide_eq_true (List.all_eq_true.1 a6.1 x hx), hob x hx⟩
    obtain ⟨p1, p2, m1, m2, hcd⟩ := g2 a2
    obtain ⟨q, rfl⟩ := Int.eq_ofNat_of_zero_le (show 0 ≤ p by omega)
    exact any_main ad q m ks A items.length c items B others.length cB others a w ⟨hE⟩ hk hkb hC rfl hc a3 (of_decide_eq_true a5.2) h60 hCo rfl a7 h60o a8 (by omega) (by omega) m1 m2 hcd H1 H4 H2 H3 H5
  · exact any_stop p m _ A B items.length c others.length cB a w b1 b2 _ b4 _ H1 H4 H2 H3 H5 hall
end Go.Proofs.YtfhkkojdaejnjaaDoor.Gcs
