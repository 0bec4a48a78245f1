/-
  A filter's bytes behind N and P.
  impl.Forms, walked.
  impl.FromN, walked.
  The law FnForms: its guards in plain words, the data's length.
  laws.FnForms, walked.
-/
import Derived.Test.YtfhkkojdaejnjaaDoorJB
import Derived.Deep.RegionLaw
import Derived.Deep.RegionHeld3
import Derived.Test.YtfhkkojdaejnjaaDoorJC
set_option linter.unusedVariables false
namespace Go.Proofs.YtfhkkojdaejnjaaDoor.Gcs
open Go.RowKit Go.Proofs.YtfhkkojdaejnjaaDoor.Hand Go.Proofs.YtfhkkojdaejnjaaDoor.Buf Go.Proofs.YtfhkkojdaejnjaaDoor.PFnForms Go.Proofs.YtfhkkojdaejnjaaDoorW.PrintWords Go.Proofs.YtfhkkojdaejnjaaDoorW.PrintLast Go.Proofs.YtfhkkojdaejnjaaDoorW.PrintMore

theorem lit_C {w w1 : World} {p : Int} (hb1 : Below ((w.alloc (.cells #[.int .u8 p] 5)).drew).heap.size ((w.alloc (.cells #[.int .u8 p] 5)).drew) w1) : Kd.C (Kd.int .u8) w1 (some ⟨w.heap.size, 0, none⟩) 1 [p] :=
  Kd.C_below (C_of_block (e := 5) (fr := (0, 0)) (xs := [p]) (blk_drew (blk_new w _)) (by simp)) hb1
set_option maxRecDepth 100000 in
set_option maxHeartbeats 8000000 in
theorem npbytes_calls (f : Nat) (n p md : Int) (A : Option Addr) (c : Nat) (D : List Int) (w : World) (hF : Flt w f n p md A c D) (hD : D.length ≤ 1000000) (h0 : 0 ≤ n) (h1 : n < 253) : Calls Tryd.prog 30 #[.pointer (some ⟨f, 0, none⟩)] w (IsRow w (n :: p :: D)) := by
  obtain ⟨k0, k1, k2, k3⟩ := hF.cells
  have HF := Aside0.mk hF
  clear hF k2
  obtain ⟨l, hl⟩ : ∃ l, l = D.length := ⟨_, rfl⟩
  have HL := Aside0.mk hl
  rw [← hl] at hD k3
  have HV : Aside0 (∀ W, Calls Tryd.prog 45 #[.int .u64 (IntKind.u64.wrap n)] W (IsOne W [n])) := ⟨fun W => by rw [wrap_id h0 (by omega)]; exact varint_R n W h0 h1⟩
  clear hl
  go_enter Tryd.func30, Tryd.ntmps30
  go_wp2_with fail
  go_region_held3 (fun w' => w'.cell? ⟨f, 0, none⟩ = some (.int .u32 n) ∧ w'.cell? ⟨f, 1, none⟩ = some (.int .u8 p) ∧ w'.cell? ⟨f, 3, none⟩ = some (.slice A l c))
    (first | (with_reducible exact ⟨k0, k1, k3⟩) | (with_reducible exact ⟨pw_cell_below HB2.out k0, pw_cell_below HB2.out k1, pw_cell_below HB2.out k3⟩) | (with_reducible exact ⟨pw_cell_below HB3.out k0, pw_cell_below HB3.out k1, pw_cell_below HB3.out k3⟩) | (with_reducible exact ⟨pw_cell_below (below_alloc HB1.out _) k0, pw_cell_below (below_alloc HB1.out _) k1, pw_cell_below (below_alloc HB1.out _) k3⟩) | (with_reducible exact ⟨pw_cell_below HB1.out k0, pw_cell_below HB1.out k1, pw_cell_below HB1.out k3⟩) | (with_reducible exact ⟨pw_cell_below (below_alloc (below_drew (Below.refl _ _)) _) k0, pw_cell_below (below_alloc (below_drew (Below.refl _ _)) _) k1, pw_cell_below (below_alloc (below_drew (Below.refl _ _)) _) k3⟩) | (with_reducible exact ⟨pw_cell_below (below_drew (below_alloc (Below.refl _ _) _)) k0, pw_cell_below (below_drew (below_alloc (Below.refl _ _) _)) k1, pw_cell_below (below_drew (below_alloc (Below.refl _ _) _)) k3⟩) | go_keep)
    (first
    | (refine step_calls (o := ⟨some 9, _, _, _, _, _⟩) rfl (f := 45) (vals := #[.int .u64 (IntKind.u64.wrap n)]) (by go_simp) (HV.out _) ?_; intro e1 w1 hq; unfold IsOne at hq; obtain ⟨v1, rfl, hR1, hb1⟩ := hq; refine ⟨_, rfl, ?_⟩; have HB1 := Aside0.mk (show Below w.heap.size w w1 from below_step (by repeat (first | (with_reducible exact Below.refl _ _) | apply below_drew1 | apply pw_below_drewN | apply below_alloc)) hb1); have HR1 := Aside0.mk (Kd.R_lower hR1 (show w.heap.size ≤ _ from Below.size (B := w.heap.size) (w := w) (by repeat (first | (with_reducible exact Below.refl _ _) | apply below_drew1 | apply pw_below_drewN | apply below_alloc)))); have HCL := Aside0.mk (lit_C hb1); have HF1 := Aside0.mk (HF.out.below HB1.out); clear hR1 hb1)
    | (refine step_calls (o := ⟨some 9, _, _, _, _, _⟩) rfl (f := 45) (vals := #[.int .u64 (IntKind.u64.wrap n)]) (by go_simp) (HV.out _) ?_; intro e1 w1 hq; unfold IsOne at hq; obtain ⟨v1, rfl, hR1, hb1⟩ := hq; refine ⟨_, rfl, ?_⟩; have HB1 := Aside0.mk (show Below w.heap.size w w1 from below_step (by repeat (first | (with_reducible exact Below.refl _ _) | apply below_drew1 | apply pw_below_drewN | apply below_alloc)) hb1); have HR1 := Aside0.mk (Kd.R_lower hR1 (show w.heap.size ≤ _ from Below.size (B := w.heap.size) (w := w) (by repeat (first | (with_reducible exact Below.refl _ _) | apply below_drew1 | apply pw_below_drewN | apply below_alloc)))); have HF1 := Aside0.mk (HF.out.below HB1.out); clear hR1 hb1)
    | (refine Kd.R_append_step (Kd.int .u8) (w0 := w) w.heap.size rfl (.tmp 9) (.tmp 14) 29 5 (.int .u8 0) 1 rfl Tryd.underlying29 info5 rfl (by decide) (by decide) v1 [n] p [.int .u8 p] (fun _ => True) (fun _ => False) rfl rfl rfl (fun _ hk => hk.elim) (fun _ _ => trivial) HR1.out HB1.out HB1.out.size (by simp) ?_; intro v3 w3 hR3 hb3 _ _; have HR3 := Aside0.mk hR3; have HB3 := Aside0.mk hb3; have HF3 := Aside0.mk (HF.out.below HB3.out); clear hR3 hb3)
    | (refine Kd.R_append_rows_step (Kd.int .u8) (w0 := w) w.heap.size rfl (.tmp 15) (.tmp 19) 29 5 (.int .u8 0) 1 rfl Tryd.underlying29 info5 rfl (by decide) (by decide) v3 [n, p] D A l c (fun _ => True) (fun _ => False) rfl rfl HR3.out (by rw [HL.out]; exact HF3.out.C) (fun _ _ h => h) (fun _ h => h.elim) (fun _ _ => trivial) HB3.out HB3.out.size (by simp; omega) ?_; intro v2 w2 hR2 hb2 _ _; have HR2 := Aside0.mk hR2; have HB2 := Aside0.mk hb2; clear hR2 hb2)
    | (refine Kd.R_append_rows_step (Kd.int .u8) (w0 := w) w.heap.size rfl (.tmp 9) (.tmp 14) 29 5 (.int .u8 0) 1 rfl Tryd.underlying29 info5 rfl (by decide) (by decide) v1 [n] [p] _ 1 1 (fun _ => True) (fun _ => False) rfl rfl HR1.out HCL.out (fun _ _ h => h) (fun _ h => h.elim) (fun _ _ => trivial) HB1.out HB1.out.size (by simp) ?_; intro v3 w3 hR3 hb3 _ _; have HR3 := Aside0.mk hR3; have HB3 := Aside0.mk hb3; have HF3 := Aside0.mk (HF.out.below HB3.out); clear hR3 hb3))
  all_goals
    go_wp2_with fail
    exact bodyPost_ret (results_tmp2 rfl _ _ _) rfl ⟨_, rfl, HR2.out, HB2.out⟩
end Go.Proofs.YtfhkkojdaejnjaaDoor.Gcs
namespace Go.Proofs.YtfhkkojdaejnjaaDoor.Gcs
open Go.RowKit Go.Proofs.YtfhkkojdaejnjaaDoor.Hand Go.Proofs.YtfhkkojdaejnjaaDoor.Buf Go.Proofs.YtfhkkojdaejnjaaDoor.PFnForms Go.Proofs.YtfhkkojdaejnjaaDoorW.PrintWords Go.Proofs.YtfhkkojdaejnjaaDoorW.PrintLast Go.Proofs.YtfhkkojdaejnjaaDoorW.PrintMore

theorem results_tmp5 {fn : Func} {a b c d e : Tmp} (h : fn.results = #[.tmp a, .tmp b, .tmp c, .tmp d, .tmp e]) (tmps : Array Value) (P : Program) (w : World) :
    (results fn tmps).run P w = .ok (.tuple #[tmps.getD a undef, tmps.getD b undef, tmps.getD c undef, tmps.getD d undef, tmps.getD e undef]) w := by
  simp [results, h]
/-- The four forms. -/
def IsForms (w : World) (n p : Int) (D : List Int) (e : Ending) (w' : World) : Prop :=
  ∃ A1 c1 A2 c2 A3 c3 A4 c4, e = .returned (.tuple #[.slice A1 D.length c1, .slice A2 (n :: D).length c2, .slice A3 (p :: D).length c3, .slice A4 (n :: p :: D).length c4, .bool true]) ∧
    Kd.C (Kd.int .u8) w' A1 D.length D ∧ Kd.C (Kd.int .u8) w' A2 (n :: D).length (n :: D) ∧ Kd.C (Kd.int .u8) w' A3 (p :: D).length (p :: D) ∧ Kd.C (Kd.int .u8) w' A4 (n :: p :: D).length (n :: p :: D) ∧ Below w.heap.size w w'
set_option maxRecDepth 100000 in
set_option maxHeartbeats 8000000 in
theorem forms_calls (p m md n : Int) (A : Option Addr) (c : Nat) (D : List Int) (w : World) (hC : Kd.C (Kd.int .u8) w A D.length D) (hc : D.length ≤ c) (h0 : 0 ≤ n) (h1 : n ≤ 60) (hp : p ≤ 32) (hcd : impl_coded.f p m = some true) (hmd : IntKind.u64.wrap (n * m) = md) (hD : D.length ≤ 2000) (hpos : 0 < D.length) :
    Calls Tryd.prog 13 #[.agg #[.int .u32 n, .int .u8 p, .int .u64 m, .slice A D.length c]] w (IsForms w n p D) := by
  have HST : Aside0 (∀ W, Below w.heap.size w W → Calls Tryd.prog 23 #[.agg #[.int .u32 n, .int .u8 p, .int .u64 m, .slice A D.length c]] W (IsSet W n p md D)) := ⟨fun W hb => set_calls p m md n A c D W (Kd.C_below hC hb) hc h0 h1 hp hcd hmd hD⟩
  have H1 : Aside0 (∀ f A1 c1 W, Flt W f n p md A1 c1 D → Calls Tryd.prog 18 #[.pointer (some ⟨f, 0, none⟩)] W (IsCopy W D)) := ⟨fun f A1 c1 W h => bytes_calls f n p md A1 c1 D W h (by omega)⟩
  have H2 : Aside0 (∀ f A1 c1 W, Flt W f n p md A1 c1 D → Calls Tryd.prog 28 #[.pointer (some ⟨f, 0, none⟩)] W (IsRow W (n :: D))) := ⟨fun f A1 c1 W h => nbytes_calls f n p md A1 c1 D W h (by omega) h0 (by omega)⟩
  have H3 : Aside0 (∀ f A1 c1 W, Flt W f n p md A1 c1 D → Calls Tryd.prog 29 #[.pointer (some ⟨f, 0, none⟩)] W (IsCopy W (p :: D))) := ⟨fun f A1 c1 W h => pbytes_calls f n p md A1 c1 D W h (by omega) hpos⟩
  have H4 : Aside0 (∀ f A1 c1 W, Flt W f n p md A1 c1 D → Calls Tryd.prog 30 #[.pointer (some ⟨f, 0, none⟩)] W (IsRow W (n :: p :: D))) := ⟨fun f A1 c1 W h => npbytes_calls f n p md A1 c1 D W h (by omega) h0 (by omega)⟩
  have HB := Aside0.mk (Below.refl w.heap.size w)
  have HDL := Aside0.mk hD
  obtain ⟨l, hl⟩ : ∃ l, l = D.length := ⟨_, rfl⟩
  have HL := Aside0.mk hl
  rw [← hl] at HST ⊢
  clear hl hC hc hcd hmd hD hpos
  go_enter Tryd.func13, Tryd.ntmps13
  go_wp2_with (first
    | ((with_reducible refine gate_dst (N := 1) rfl ?_); refine box_event ?hg (N := 1) ?hd (cs := #[.int .u32 n, .int .u8 p, .int .u64 m, .slice A l c]) (t := 31) ?hr ?_; (case hd => rfl); (case hg => rfl); (case hr => first | (go_simp; done) | (go_simp; rfl)); intro g hg w1 hbox hb1; have HB1 := Aside0.mk (below_step HB.out hb1); have k0 := (cell_of_blk hbox (i := 0) rfl).1; have k1 := (cell_of_blk hbox (i := 1) rfl).1; have k2 := (cell_of_blk hbox (i := 2) rfl).1; have k3 := (cell_of_blk hbox (i := 3) rfl).1; clear hg hbox hb1)
    | (go_at_call 23; refine (HST.out _ HB1.out).mono ?_; intro e2 w2 hq; unfold IsSet at hq; obtain ⟨f, A0, c0, rfl, hF, hf, hb2⟩ := hq; have HF := Aside0.mk hF; have HB2 := Aside0.mk (below_step HB1.out hb2); clear hF hf hb2 k0 k1 k2 k3)
    | (go_at_call 18; refine (H1.out f A0 c0 _ HF.out).mono ?_; intro e3 w3 hq; unfold IsCopy at hq; obtain ⟨g1, rfl, hg1, hge, hb3⟩ := hq; have HC1 := Aside0.mk (C_by8 hg1 (by have := HDL.out; omega)); have HF3 := Aside0.mk (HF.out.below hb3); have HB3 := Aside0.mk (below_step HB2.out hb3); clear hg1 hge hb3)
    | (go_at_call 28; refine (H2.out f A0 c0 _ HF3.out).mono ?_; intro e4 w4 hq; unfold IsRow at hq; obtain ⟨v4, rfl, hR4, hb4⟩ := hq; obtain ⟨A4, c4, rfl⟩ := Kd.R_slice hR4; have HC1' := Aside0.mk (Kd.C_below HC1.out hb4); have HC2 := Aside0.mk (Kd.R_reads' hR4).2.2; have HF4 := Aside0.mk (HF3.out.below hb4); have HB4 := Aside0.mk (below_step HB3.out hb4); clear hR4 hb4)
    | (go_at_call 29; refine (H3.out f A0 c0 _ HF4.out).mono ?_; intro e5 w5 hq; unfold IsCopy at hq; obtain ⟨g5, rfl, hg5, hge, hb5⟩ := hq; have HC3 := Aside0.mk (C_by8 hg5 (by have := HDL.out; simp only [List.length_cons]; omega)); have HF5 := Aside0.mk (HF4.out.below hb5); have HB5 := Aside0.mk (below_step HB4.out hb5); have HC1'' := Aside0.mk (Kd.C_below HC1'.out hb5); have HC2' := Aside0.mk (Kd.C_below HC2.out hb5); clear hg5 hge hb5)
    | (go_at_call 30; refine (H4.out f A0 c0 _ HF5.out).mono ?_; intro e6 w6 hq; unfold IsRow at hq; obtain ⟨v6, rfl, hR6, hb6⟩ := hq; obtain ⟨A6, c6, rfl⟩ := Kd.R_slice hR6; have HC4 := Aside0.mk (Kd.R_reads' hR6).2.2; have HB6 := Aside0.mk (below_step HB5.out hb6); have HD1 := Aside0.mk (Kd.C_below HC1''.out hb6); have HD2 := Aside0.mk (Kd.C_below HC2'.out hb6); have HD3 := Aside0.mk (Kd.C_below HC3.out hb6); clear hR6 hb6)
    | fail)
  refine bodyPost_ret (results_tmp5 rfl _ _ _) rfl ?_
  exact ⟨_, _, _, _, _, _, _, _, rfl, HD1.out, HD2.out, HD3.out, HC4.out, HB6.out⟩
end Go.Proofs.YtfhkkojdaejnjaaDoor.Gcs
namespace Go.Proofs.YtfhkkojdaejnjaaDoor.Gcs
open Go.RowKit Go.Proofs.YtfhkkojdaejnjaaDoor.Hand Go.Proofs.YtfhkkojdaejnjaaDoor.Buf Go.Proofs.YtfhkkojdaejnjaaDoor.PFnForms Go.Proofs.YtfhkkojdaejnjaaDoorW.PrintWords Go.Proofs.YtfhkkojdaejnjaaDoorW.PrintLast Go.Proofs.YtfhkkojdaejnjaaDoorW.PrintMore

theorem res_facts {W w1 : World} {g T : Nat} {a b c d : Value} (h : W.heap[g]? = some (.cells #[a, b, c, d] T (0, 0))) (hb : Below W.heap.size W w1) :
    Aside0 (w1.heap[g]? = some (.cells #[a, b, c, d] T (0, 0))) ∧ w1.cell? ⟨g, 0, none⟩ = some a ∧ w1.cell? ⟨g, 1, none⟩ = some b ∧ w1.cell? ⟨g, 2, none⟩ = some c ∧ w1.cell? ⟨g, 3, none⟩ = some d ∧
    w1.frozen? ⟨g, 0, none⟩ = false ∧ w1.frozen? ⟨g, 1, none⟩ = false ∧ w1.frozen? ⟨g, 2, none⟩ = false ∧ w1.frozen? ⟨g, 3, none⟩ = false := by
  have h1 : w1.heap[g]? = some (.cells #[a, b, c, d] T (0, 0)) := (hb.block g (blk_lt h)).trans h
  exact ⟨⟨h1⟩, by rw [blk_cell h1]; rfl, by rw [blk_cell h1]; rfl, by rw [blk_cell h1]; rfl, by rw [blk_cell h1]; rfl, by simp [World.frozen?, h1], by simp [World.frozen?, h1], by simp [World.frozen?, h1], by simp [World.frozen?, h1]⟩
theorem res_cells {w1 : World} {g T : Nat} {a b c d : Value} (h : w1.heap[g]? = some (.cells #[a, b, c, d] T (0, 0))) (a1 b1 c1 d1 : Value) :
    ((((w1.setCell ⟨g, 0, none⟩ a1).setCell ⟨g, 1, none⟩ b1).setCell ⟨g, 2, none⟩ c1).setCell ⟨g, 3, none⟩ d1).cell? ⟨g, 0, none⟩ = some a1 ∧
    ((((w1.setCell ⟨g, 0, none⟩ a1).setCell ⟨g, 1, none⟩ b1).setCell ⟨g, 2, none⟩ c1).setCell ⟨g, 3, none⟩ d1).cell? ⟨g, 1, none⟩ = some b1 ∧
    ((((w1.setCell ⟨g, 0, none⟩ a1).setCell ⟨g, 1, none⟩ b1).setCell ⟨g, 2, none⟩ c1).setCell ⟨g, 3, none⟩ d1).cell? ⟨g, 2, none⟩ = some c1 ∧
    ((((w1.setCell ⟨g, 0, none⟩ a1).setCell ⟨g, 1, none⟩ b1).setCell ⟨g, 2, none⟩ c1).setCell ⟨g, 3, none⟩ d1).cell? ⟨g, 3, none⟩ = some d1 := by
  have H := bx_set (i := 3) (y := d1) (bx_set (i := 2) (y := c1) (bx_set (i := 1) (y := b1) (bx_set (i := 0) (y := a1) h)))
  exact ⟨by rw [blk_cell H]; rfl, by rw [blk_cell H]; rfl, by rw [blk_cell H]; rfl, by rw [blk_cell H]; rfl⟩
theorem drew_cell (w : World) (a : Addr) : w.drew.cell? a = w.cell? a := rfl
theorem res_cells_drew {w1 : World} {g T : Nat} {a b c d : Value} (h : w1.heap[g]? = some (.cells #[a, b, c, d] T (0, 0))) (a1 b1 c1 d1 : Value) :
    ((((w1.setCell ⟨g, 0, none⟩ a1).setCell ⟨g, 1, none⟩ b1).setCell ⟨g, 2, none⟩ c1).setCell ⟨g, 3, none⟩ d1).drew.cell? ⟨g, 0, none⟩ = some a1 ∧
    ((((w1.setCell ⟨g, 0, none⟩ a1).setCell ⟨g, 1, none⟩ b1).setCell ⟨g, 2, none⟩ c1).setCell ⟨g, 3, none⟩ d1).drew.cell? ⟨g, 1, none⟩ = some b1 ∧
    ((((w1.setCell ⟨g, 0, none⟩ a1).setCell ⟨g, 1, none⟩ b1).setCell ⟨g, 2, none⟩ c1).setCell ⟨g, 3, none⟩ d1).drew.cell? ⟨g, 2, none⟩ = some c1 ∧
    ((((w1.setCell ⟨g, 0, none⟩ a1).setCell ⟨g, 1, none⟩ b1).setCell ⟨g, 2, none⟩ c1).setCell ⟨g, 3, none⟩ d1).drew.cell? ⟨g, 3, none⟩ = some d1 := by
  rw [drew_cell, drew_cell, drew_cell, drew_cell]
  exact res_cells h a1 b1 c1 d1
theorem far_blk {w1 : World} {g b : Nat} {o : Obj} (h : w1.heap[b]? = some o) (hb : b ≠ g) (a1 b1 c1 d1 : Value) : ((((w1.setCell ⟨g, 0, none⟩ a1).setCell ⟨g, 1, none⟩ b1).setCell ⟨g, 2, none⟩ c1).setCell ⟨g, 3, none⟩ d1).heap[b]? = some o := by
  have e : ∀ (w : World) (i : Nat) (v : Value), (w.setCell ⟨g, i, none⟩ v).heap[b]? = w.heap[b]? := fun w i v => Below.heap_setCell w ⟨g, i, none⟩ v b hb
  rw [e, e, e, e, h]
/-- The filter, told. -/
def IsTold (w : World) (n p m : Int) (D : List Int) (e : Ending) (w' : World) : Prop :=
  ∃ A c, e = .returned (.tuple #[.agg #[.int .u32 n, .int .u8 p, .int .u64 m, .slice A D.length c], .bool true]) ∧ Kd.C (Kd.int .u8) w' A D.length D ∧ Below w.heap.size w w'
set_option maxRecDepth 100000 in
set_option maxHeartbeats 8000000 in
theorem fromN_calls (p m md n0 : Int) (A : Option Addr) (c : Nat) (D : List Int) (w : World) (hC : Kd.C (Kd.int .u8) w A (n0 :: D).length (n0 :: D)) (h0 : 0 ≤ n0) (h1 : n0 ≤ 60) (hp : p ≤ 32) (hmd : IntKind.u64.wrap (n0 * m) = md) (hD : D.length < 2000) (hpos : 1 ≤ D.length) :
    Calls Tryd.prog 14 #[.int .u8 p, .int .u64 m, .slice A (D.length + 1) c] w (IsTold w n0 p m D) := by
  have HC := Aside0.mk hC
  have HCL : Aside0 (∀ W, Below w.heap.size w W → Calls Tryd.prog 32 #[.slice A (D.length + 1) c] W fun e w' => ∃ v, e = .returned v ∧ Kd.R (Kd.int .u8) 5 w' W.heap.size (fun _ => True) v (n0 :: D) ∧ Below W.heap.size W w') := ⟨fun W hb => clone_calls A c (n0 :: D) W (Kd.C_below hC hb) (by simp; omega)⟩
  have HFB : Aside0 (∀ (A1 : Option Addr) (c1 : Nat) W, Kd.C (Kd.int .u8) W A1 (n0 :: D).length (n0 :: D) → D.length + 1 ≤ c1 → Calls Tryd.prog 31 #[.int .u8 p, .int .u64 m, .slice A1 (D.length + 1) c1] W (IsFlt W n0 p md D)) := ⟨fun A1 c1 W h hc => fromNB_calls p m md n0 A1 c1 D W h hc h0 h1 hp hmd (by omega) hpos⟩
  have H1 : Aside0 (∀ f A1 c1 W, Flt W f n0 p md A1 c1 D → Calls Tryd.prog 18 #[.pointer (some ⟨f, 0, none⟩)] W (IsCopy W D)) := ⟨fun f A1 c1 W h => bytes_calls f n0 p md A1 c1 D W h (by omega)⟩
  have HDL := Aside0.mk hD
  obtain ⟨l, hl⟩ : ∃ l, l = D.length := ⟨_, rfl⟩
  have HL := Aside0.mk hl
  rw [← hl] at HCL hD ⊢
  have hl2 : ¬ (2000 : Int) < (l : Int) + 1 := by omega
  have HB0 := Aside0.mk (below_alloc (Below.refl w.heap.size w) (.cells #[Value.int .u32 0, Value.int .u8 0, Value.int .u64 0, Value.slice none 0 0] 31))
  clear hl hC hmd hpos
  go_enter Tryd.func14, Tryd.ntmps14
  go_wp2_with (first
    | (go_at_call 32; refine (HCL.out _ HB0.out).mono ?_; rintro e1 w1 ⟨v1, rfl, hR1, hb1⟩; obtain ⟨A1, c1, rfl⟩ := Kd.R_slice hR1; have HR1 := Aside0.mk (Kd.R_reads' hR1); have HB1 := Aside0.mk hb1; clear hR1 hb1)
    | (go_at_call 31; refine (HFB.out A1 c1 _ HR1.out.2.2 (by have := HR1.out.2.1; rw [List.length_cons] at this; exact this)).mono ?_; intro e2 w2 hq; unfold IsFlt at hq; obtain ⟨f, A2, c2, rfl, hF, hf, hb2⟩ := hq; have HF := Aside0.mk hF; have HFS := Aside0.mk hf; have HB2 := Aside0.mk (below_step HB1.out hb2); clear hF hf hb2)
    | (go_at_call 18; refine (H1.out f A2 c2 _ HF.out).mono ?_; intro e3 w3 hq; unfold IsCopy at hq; obtain ⟨g1, rfl, hg1, hge, hb3⟩ := hq; have HC1 := Aside0.mk hg1; have HF3 := Aside0.mk (HF.out.below hb3); have HG1 := Aside0.mk hge; have HB3 := Aside0.mk (below_step HB2.out hb3); clear hg1 hge hb3)
    | fail)
  have HW : Aside0 (w3.heap[w.heap.size]? = some (.cells #[Value.int .u32 0, Value.int .u8 0, Value.int .u64 0, Value.slice none 0 0] 31 (0, 0))) := ⟨(HB3.out.block _ (by simp)).trans (by show (w.heap.push _)[w.heap.size]? = _; simp)⟩
  obtain ⟨q0, q1, q2, q3, f0, f1, f2, f3⟩ := (res_facts HW.out (Below.refl _ _)).2
  have HD3 : Aside0 (w3.drew.heap[w.heap.size]? = some (.cells #[Value.int .u32 0, Value.int .u8 0, Value.int .u64 0, Value.slice none 0 0] 31 (0, 0))) := ⟨HW.out⟩
  have HBW : Aside0 (Below w.heap.size w w3.drew) := ⟨below_drew (below_step HB0.out HB3.out)⟩
  have HN : Aside0 (∀ W, Below w3.heap.size w3 W → Calls Tryd.prog 19 #[.pointer (some ⟨f, 0, none⟩)] W fun e w' => e = .returned (.int .u32 n0) ∧ w' = W) := ⟨fun W hb => N_calls f n0 p md A2 c2 D W (HF3.out.below hb)⟩
  have HP : Aside0 (∀ W, Below w3.heap.size w3 W → Calls Tryd.prog 20 #[.pointer (some ⟨f, 0, none⟩)] W fun e w' => e = .returned (.int .u8 p) ∧ w' = W) := ⟨fun W hb => P_calls f n0 p md A2 c2 D W (HF3.out.below hb)⟩
  go_region_with (first
    | (go_at_call 19; refine (HN.out _ (by repeat (first | (with_reducible exact Below.refl _ _) | apply below_drew1 | apply pw_below_drewN))).mono ?_; rintro e5 w5 ⟨rfl, rfl⟩)
    | (go_at_call 20; refine (HP.out _ (by repeat (first | (with_reducible exact Below.refl _ _) | apply below_drew1 | apply pw_below_drewN))).mono ?_; rintro e5 w5 ⟨rfl, rfl⟩))
  all_goals
    obtain ⟨r0, r1, r2, r3⟩ := res_cells_drew HW.out (.int .u32 n0) (.int .u8 p) (.int .u64 m) (.slice (some ⟨g1, 0, none⟩) D.length D.length)
    have HNE : g1 ≠ w.heap.size := by have h1 := HG1.out; have h2 := HB2.out.size; simp at h2; omega
    go_wp2
    refine bodyPost_ret (v := .tuple #[.agg #[.int .u32 n0, .int .u8 p, .int .u64 m, .slice (some ⟨g1, 0, none⟩) D.length D.length], .bool true]) (by simp [results, Tryd.results14, go_sem, r0, r1, r2, r3]) rfl ⟨_, _, rfl, ?_, ?_⟩
    · exact C_by8 (far_blk HC1.out HNE _ _ _ _) (by have := HDL.out; omega)
    · exact ((((HBW.out).setCell (Nat.le_refl _) _).setCell (Nat.le_refl _) _).setCell (Nat.le_refl _) _).setCell (Nat.le_refl _) _
end Go.Proofs.YtfhkkojdaejnjaaDoor.Gcs
namespace Go.Proofs.YtfhkkojdaejnjaaDoor.Gcs
open Go.RowKit Go.Proofs.YtfhkkojdaejnjaaDoor.Hand Go.Proofs.YtfhkkojdaejnjaaDoor.Buf Go.Proofs.YtfhkkojdaejnjaaDoor.PFnForms Go.Proofs.YtfhkkojdaejnjaaDoorW.PrintWords Go.Proofs.YtfhkkojdaejnjaaDoorW.PrintLast Go.Proofs.YtfhkkojdaejnjaaDoorW.PrintMore

/-! ### The guards' plain functions -/
theorem w64' {x : Int} (h1 : -9223372036854775808 ≤ x) (h2 : x ≤ 9223372036854775807) : wrap64 x = x := by unfold wrap64; omega
theorem rd_row (pre : List (List Int)) (x : List Int) (post : List (List Int)) (i : Int) (h : i = pre.length) : rd_L1 (pre ++ x :: post) i = x := by
  subst h; simp [rd_L1]
def allTo (m : Nat) (xs : List (List Int)) : Bool := xs.all fun b => decide (b.length ≤ m)

section
variable (xs : List (List Int)) (hl : xs.length ≤ 9223372036854775807)
include hl
theorem small_l0 : ∀ (rest done : List (List Int)), xs = done ++ rest → Ev (fun k => spec_IsSmall.l0 k xs xs (xs.length : Int) (done.length : Int)) (allTo 60 rest && decide (xs.length ≤ 20)) := by
  intro rest
  induction rest with
  | nil =>
    intro done hd
    refine Ev.step (f := fun _ => some _) (fun k => ?_) (Ev.now _)
    have hdl : xs.length = done.length := by rw [hd]; simp
    simp only [spec_IsSmall.l0]
    rw [if_neg (by omega)]
    simp [allTo]
    omega
  | cons x rest ih =>
    intro done hd
    have hdl : done.length < xs.length := by rw [hd]; simp
    have hrd : rd_L1 xs (done.length : Int) = x := by rw [hd]; exact rd_row done x rest _ rfl
    by_cases h : x.length ≤ 60
    · have := ih (done ++ [x]) (by rw [hd]; simp)
      have e : allTo 60 (x :: rest) = allTo 60 rest := by simp [allTo, h]
      rw [e]
      refine Ev.step (fun k => ?_) this
      simp only [spec_IsSmall.l0]
      rw [hrd, if_pos (by omega), if_pos (by omega), if_pos (by omega), if_neg (by omega), w64' (by omega) (by omega)]
      simp
    · have e : allTo 60 (x :: rest) = false := by simp [allTo, h]
      rw [e, Bool.false_and]
      refine Ev.step (f := fun _ => some _) (fun k => ?_) (Ev.now _)
      simp only [spec_IsSmall.l0]
      rw [hrd, if_pos (by omega), if_pos (by omega), if_pos (by omega), if_pos (by omega)]
theorem zz_l0 : ∀ (rest done : List (List Int)), xs = done ++ rest → Ev (fun k => laws_zzFits2.l0 k xs (xs.length : Int) (done.length : Int)) (allTo 2147483647 rest) := by
  intro rest
  induction rest with
  | nil =>
    intro done hd
    refine Ev.step (f := fun _ => some _) (fun k => ?_) (Ev.now _)
    have hdl : xs.length = done.length := by rw [hd]; simp
    simp only [laws_zzFits2.l0]
    rw [if_neg (by omega)]
    simp [allTo]
  | cons x rest ih =>
    intro done hd
    have hdl : done.length < xs.length := by rw [hd]; simp
    have hrd : rd_L1 xs (done.length : Int) = x := by rw [hd]; exact rd_row done x rest _ rfl
    by_cases h : x.length ≤ 2147483647
    · have := ih (done ++ [x]) (by rw [hd]; simp)
      have e : allTo 2147483647 (x :: rest) = allTo 2147483647 rest := by simp [allTo, h]
      rw [e]
      refine Ev.step (fun k => ?_) this
      simp only [laws_zzFits2.l0]
      rw [hrd, if_pos (by omega), if_pos (by omega), if_pos (by omega), if_neg (by omega), w64' (by omega) (by omega)]
      simp
    · have e : allTo 2147483647 (x :: rest) = false := by simp [allTo, h]
      rw [e]
      refine Ev.step (f := fun _ => some _) (fun k => ?_) (Ev.now _)
      simp only [laws_zzFits2.l0]
      rw [hrd, if_pos (by omega), if_pos (by omega), if_pos (by omega), if_pos (by omega)]
theorem small_is : ∃ k, spec_IsSmall.f k xs = some (allTo 60 xs && decide (xs.length ≤ 20)) := (small_l0 xs hl xs [] rfl).rounds
theorem zz_is : ∃ k b, laws_zzFits2.f k xs = some b ∧ (b = true → xs.length ≤ 2147483647) := by
  by_cases h : (xs.length : Int) > 2147483647
  · exact ⟨0, false, by unfold laws_zzFits2.f; rw [if_pos h], fun h => by cases h⟩
  · obtain ⟨k, hk⟩ := (zz_l0 xs hl xs [] rfl).rounds
    exact ⟨k, _, by unfold laws_zzFits2.f; rw [if_neg h]; exact hk, fun _ => by omega⟩
end

theorem pow24 : ∀ q : Nat, 1 ≤ q → q ≤ 24 → shl .u64 16 (q : Int) = 16 * 2 ^ q ∧ (16 : Int) * 2 ^ q ≤ shl .u64 64 (q : Int) := by
  intro q h1 h2
  have : ∀ j : Fin 25, shl .u64 16 (j.val : Int) = 16 * 2 ^ j.val ∧ (16 : Int) * 2 ^ j.val ≤ shl .u64 64 (j.val : Int) := by decide
  exact this ⟨q, by omega⟩
theorem coded_is (p m : Int) : ∃ b, laws_isCoded.f p m = some b ∧ (b = true → 1 ≤ p ∧ p ≤ 24 ∧ 1 ≤ m ∧ m ≤ 16 * 2 ^ p.toNat ∧ impl_coded.f p m = some true) := by
  unfold laws_isCoded.f
  by_cases h1 : p ≥ 1
  · rw [if_pos h1]
    by_cases h2 : p ≤ 24
    · rw [if_pos h2]
      by_cases h3 : m ≥ 1
      · rw [if_pos h3, if_pos (by omega)]
        refine ⟨_, rfl, fun h => ?_⟩
        have h := of_decide_eq_true h
        have e : ((p.toNat : Nat) : Int) = p := by omega
        obtain ⟨q1, q2⟩ := pow24 p.toNat (by omega) (by omega)
        rw [e] at q1 q2
        rw [q1] at h
        refine ⟨h1, h2, h3, h, ?_⟩
        unfold impl_coded.f
        rw [if_pos (by omega), if_pos (by omega)]
        congr 1
        exact decide_eq_true (Int.le_trans h q2)
      · rw [if_neg h3]; exact ⟨_, rfl, fun h => by cases h⟩
    · rw [if_neg h2]; exact ⟨_, rfl, fun h => by cases h⟩
  · rw [if_neg h1]; exact ⟨_, rfl, fun h => by cases h⟩
theorem same_is (a : List Int) : laws_same.f a a = some true := by unfold laws_same.f; simp
theorem diffB_length {p : Nat} {d : Int} (hp : p ≤ 24) (hd : d < 320 * 2 ^ p) : (diffB p d).length ≤ 345 := by
  unfold diffB
  simp only [List.length_append, List.length_replicate, List.length_singleton, restB_length]
  have h2 : (0 : Int) < 2 ^ p := Int.pow_pos (by decide)
  have h : d / 2 ^ p < 320 := Int.ediv_lt_of_lt_mul h2 hd
  omega
theorem bitsB_length {p : Nat} {L : List Int} {f : Int} (hp : p ≤ 24) (hf : f ≤ 320 * 2 ^ p) (hf0 : 0 < f) (hL : ∀ x ∈ L, 0 ≤ x ∧ x < f) : ∀ k, (bitsB p L k).length ≤ 345 * k
  | 0 => Nat.le_refl _
  | k + 1 => by
    have key : ∀ i, 0 ≤ L.getD i 0 ∧ L.getD i 0 < f := fun i => by
      rw [List.getD_eq_getElem?_getD]
      rcases hx : L[i]? with _ | x
      · exact ⟨Int.le_refl _, hf0⟩
      · exact hL x (List.mem_of_getElem? hx)
    have h1 := bitsB_length hp hf hf0 hL k
    unfold bitsB
    rw [List.length_append]
    have h2 := (key k).2
    have h3 := (key (k - 1)).1
    have h4 : (diffB p (L.getD k 0 - (if k = 0 then 0 else L.getD (k - 1) 0))).length ≤ 345 := diffB_length hp (by split <;> omega)
    omega
theorem bitsB_pos {p : Nat} {L : List Int} {k : Nat} (h : 1 ≤ k) : 0 < (bitsB p L k).length := by
  obtain ⟨k, rfl⟩ : ∃ j, k = j + 1 := ⟨k - 1, by omega⟩
  unfold bitsB diffB
  simp
  omega
/-- The data that is coded. -/
def dataI (p : Nat) (f : Int) (ks : List Int) (items : List (List Int)) (n : Nat) : List Int := outB (bitsB p (valsI ks f items) n) (bitsB p (valsI ks f items) n).length
theorem dataI_length {p : Nat} {f : Int} {ks : List Int} {items : List (List Int)} {n : Nat} (hp : p ≤ 24) (hf : f ≤ 320 * 2 ^ p) (hf0 : 0 < f) (h1 : 1 ≤ n) (h20 : n ≤ 20) : 1 ≤ (dataI p f ks items n).length ∧ (dataI p f ks items n).length ≤ 870 := by
  unfold dataI
  rw [(outB_facts _ _).1]
  have h := bitsB_length hp hf hf0 (valsI_facts ks f hf0 items).2.2 n
  have h2 : 0 < (bitsB p (valsI ks f items) n).length := bitsB_pos h1
  omega
/-- A number that is no more than the bound: its product. -/
theorem f_facts {p : Nat} {m : Int} {n : Nat} (hp : p ≤ 24) (hm1 : 1 ≤ m) (hm : m ≤ 16 * 2 ^ p) (h1 : 1 ≤ n) (h20 : n ≤ 20) : IntKind.u64.wrap ((n : Int) * m) = (n : Int) * m ∧ 0 < (n : Int) * m ∧ (n : Int) * m ≤ 320 * 2 ^ p := by
  have hp2 : (2 : Int) ^ p ≤ 16777216 := by
    have h : (2 : Nat) ^ p ≤ 16777216 := Nat.le_trans (Nat.pow_le_pow_right (by decide) hp) (by decide)
    have h2 := Int.ofNat_le.2 h
    rw [Int.natCast_pow] at h2
    exact h2
  have q1 : 0 < (n : Int) * m := Int.mul_pos (by omega) (by omega)
  have q2 : (n : Int) * m ≤ 20 * (16 * 2 ^ p) := Int.mul_le_mul (by omega) hm (by omega) (by omega)
  have q3 : (n : Int) * m ≤ 320 * 2 ^ p := by omega
  exact ⟨wrap_id (by omega) (by omega), q1, q3⟩
end Go.Proofs.YtfhkkojdaejnjaaDoor.Gcs
namespace Go.Proofs.YtfhkkojdaejnjaaDoor.Gcs
open Go.RowKit Go.Proofs.YtfhkkojdaejnjaaDoor.Hand Go.Proofs.YtfhkkojdaejnjaaDoor.Buf Go.Proofs.YtfhkkojdaejnjaaDoor.PFnForms Go.Proofs.YtfhkkojdaejnjaaDoorW.PrintWords Go.Proofs.YtfhkkojdaejnjaaDoorW.PrintLast Go.Proofs.YtfhkkojdaejnjaaDoorW.PrintMore

/-- The guards, where one of them lets the input pass. -/
theorem forms_stop (p m : Int) (X : Array Value) (A : Option Addr) (n c : Nat) (w : World) (b1 b2 b3 : Bool)
    (H1 : ∀ w1, Below w.heap.size w w1 → Calls Tryd.prog 6 #[.slice A n c] w1 fun e w' => e = .returned (.bool b1) ∧ Below w1.heap.size w1 w')
    (H2 : ∀ w1, Below w.heap.size w w1 → Calls Tryd.prog 7 #[.int .u8 p, .int .u64 m] w1 fun e w' => e = .returned (.bool b2) ∧ Below w1.heap.size w1 w')
    (H3 : ∀ w1, Below w.heap.size w w1 → Calls Tryd.prog 8 #[.slice A n c] w1 fun e w' => e = .returned (.bool b3) ∧ Below w1.heap.size w1 w')
    (hstop : ¬ (b1 = true ∧ b2 = true ∧ 1 ≤ n ∧ b3 = true)) :
    Calls Tryd.prog 5 #[.int .u8 p, .int .u64 m, .agg X, .slice A n c] w fun e w' => e = .returned (.bool true) ∧ Below w.heap.size w w' := by
  have HB := Aside0.mk (Below.refl w.heap.size w)
  have H1 := Aside0.mk H1
  have H2 := Aside0.mk H2
  have H3 := Aside0.mk H3
  cases b1
  · clear hstop
    go_enter Tryd.func5, Tryd.ntmps5
    go_wp2_with (first
      | ((with_reducible refine gate_dst (N := 6) rfl ?_); refine box_event ?hg (N := 6) ?hd (cs := X) (t := 23) ?hr ?_; (case hd => rfl); (case hg => rfl); (case hr => first | (go_simp; done) | (go_simp; rfl)); intro gk hg w1 hbox hb1; have HB1 := Aside0.mk (below_step HB.out hb1); clear hg hbox hb1)
      | (go_at_call 6; refine (H1.out _ HB1.out).mono ?_; rintro e2 w2 ⟨rfl, hb2⟩; have HB2 := Aside0.mk (below_step HB1.out hb2); clear hb2)
      | (go_at_call 7; refine (H2.out _ HB2.out).mono ?_; rintro e3 w3 ⟨rfl, hb3⟩; have HB3 := Aside0.mk (below_step HB2.out hb3); clear hb3)
      | (go_at_call 8; refine (H3.out _ HB3.out).mono ?_; rintro e4 w4 ⟨rfl, hb4⟩; have HB4 := Aside0.mk (below_step HB3.out hb4); clear hb4)
      | fail)
    exact bodyPost_ret (results_tmp rfl _ _ _) rfl ⟨rfl, HB2.out⟩
  cases b2
  · clear hstop
    go_enter Tryd.func5, Tryd.ntmps5
    go_wp2_with (first
      | ((with_reducible refine gate_dst (N := 6) rfl ?_); refine box_event ?hg (N := 6) ?hd (cs := X) (t := 23) ?hr ?_; (case hd => rfl); (case hg => rfl); (case hr => first | (go_simp; done) | (go_simp; rfl)); intro gk hg w1 hbox hb1; have HB1 := Aside0.mk (below_step HB.out hb1); clear hg hbox hb1)
      | (go_at_call 6; refine (H1.out _ HB1.out).mono ?_; rintro e2 w2 ⟨rfl, hb2⟩; have HB2 := Aside0.mk (below_step HB1.out hb2); clear hb2)
      | (go_at_call 7; refine (H2.out _ HB2.out).mono ?_; rintro e3 w3 ⟨rfl, hb3⟩; have HB3 := Aside0.mk (below_step HB2.out hb3); clear hb3)
      | (go_at_call 8; refine (H3.out _ HB3.out).mono ?_; rintro e4 w4 ⟨rfl, hb4⟩; have HB4 := Aside0.mk (below_step HB3.out hb4); clear hb4)
      | fail)
    exact bodyPost_ret (results_tmp rfl _ _ _) rfl ⟨rfl, HB3.out⟩
  by_cases hn : n = 0
  · subst hn
    clear hstop
    go_enter Tryd.func5, Tryd.ntmps5
    go_wp2_with (first
      | ((with_reducible refine gate_dst (N := 6) rfl ?_); refine box_event ?hg (N := 6) ?hd (cs := X) (t := 23) ?hr ?_; (case hd => rfl); (case hg => rfl); (case hr => first | (go_simp; done) | (go_simp; rfl)); intro gk hg w1 hbox hb1; have HB1 := Aside0.mk (below_step HB.out hb1); clear hg hbox hb1)
      | (go_at_call 6; refine (H1.out _ HB1.out).mono ?_; rintro e2 w2 ⟨rfl, hb2⟩; have HB2 := Aside0.mk (below_step HB1.out hb2); clear hb2)
      | (go_at_call 7; refine (H2.out _ HB2.out).mono ?_; rintro e3 w3 ⟨rfl, hb3⟩; have HB3 := Aside0.mk (below_step HB2.out hb3); clear hb3)
      | (go_at_call 8; refine (H3.out _ HB3.out).mono ?_; rintro e4 w4 ⟨rfl, hb4⟩; have HB4 := Aside0.mk (below_step HB3.out hb4); clear hb4)
      | fail)
    exact bodyPost_ret (results_tmp rfl _ _ _) rfl ⟨rfl, HB3.out⟩
  cases b3
  · have hn1 : ¬ (n : Int) < 1 := by omega
    clear hstop
    go_enter Tryd.func5, Tryd.ntmps5
    go_wp2_with (first
      | ((with_reducible refine gate_dst (N := 6) rfl ?_); refine box_event ?hg (N := 6) ?hd (cs := X) (t := 23) ?hr ?_; (case hd => rfl); (case hg => rfl); (case hr => first | (go_simp; done) | (go_simp; rfl)); intro gk hg w1 hbox hb1; have HB1 := Aside0.mk (below_step HB.out hb1); clear hg hbox hb1)
      | (go_at_call 6; refine (H1.out _ HB1.out).mono ?_; rintro e2 w2 ⟨rfl, hb2⟩; have HB2 := Aside0.mk (below_step HB1.out hb2); clear hb2)
      | (go_at_call 7; refine (H2.out _ HB2.out).mono ?_; rintro e3 w3 ⟨rfl, hb3⟩; have HB3 := Aside0.mk (below_step HB2.out hb3); clear hb3)
      | (go_at_call 8; refine (H3.out _ HB3.out).mono ?_; rintro e4 w4 ⟨rfl, hb4⟩; have HB4 := Aside0.mk (below_step HB3.out hb4); clear hb4)
      | fail)
    exact bodyPost_ret (results_tmp rfl _ _ _) rfl ⟨rfl, HB4.out⟩
  exact absurd ⟨rfl, rfl, Nat.pos_of_ne_zero hn, rfl⟩ hstop
end Go.Proofs.YtfhkkojdaejnjaaDoor.Gcs
