/-
  laws.FnForms, behind its guards.
-/
import Derived.Test.YtfhkkojdaejnjaaDoorJD
set_option linter.unusedVariables false
namespace Go.Proofs.YtfhkkojdaejnjaaDoor.Gcs
open Go.RowKit Go.Proofs.YtfhkkojdaejnjaaDoor.Hand Go.Proofs.YtfhkkojdaejnjaaDoor.Buf Go.Proofs.YtfhkkojdaejnjaaDoor.PFnForms Go.Proofs.YtfhkkojdaejnjaaDoorW.PrintWords Go.Proofs.YtfhkkojdaejnjaaDoorW.PrintLast Go.Proofs.YtfhkkojdaejnjaaDoorW.PrintMore

theorem same_any (E : List Int) (k : Nat) (A0 : Option Addr) (c0 : Nat) (A1 : Option Addr) (c1 : Nat) (w : World) (h0 : Kd.C (Kd.int .u8) w A0 k E) (h1 : Kd.C (Kd.int .u8) w A1 k E) :
    Calls Tryd.prog 10 #[.slice A0 k c0, .slice A1 k c1] w fun e w' => e = .returned (.bool true) ∧ Below w.heap.size w w' := by
  obtain rfl : E.length = k := h0.1
  have hcv3 := Kd.C_string (P := Tryd.prog) (A := A0) (c := c0) Tryd.underlying29 Tryd.underlying5 Tryd.underlying9 h0
  have hcv4 := Kd.C_string (P := Tryd.prog) (A := A1) (c := c1) Tryd.underlying29 Tryd.underlying5 Tryd.underlying9 h1
  clear h0 h1
  go_enter Tryd.func10, Tryd.ntmps10
  go_wp2
  go_ret
  exact ⟨by first | rfl | (simp; done) | (simp [*]; done), Below.refl _ _⟩
theorem lit_R (W : World) (base : Nat) (hb : base ≤ W.heap.size) (ys : List Int) (hl : ys.length ≤ 1000) : (Kd.int .u8).R 5 (W.alloc (.cells (ys.map (Value.int .u8)).toArray 5)) base (fun _ => True) (.slice (some ⟨W.heap.size, 0, none⟩) ys.length ys.length) ys :=
  Kd.R_of_own (enc := Value.int .u8) (h1 := fun _ => rfl) (xs := ys) (own_lit W base 5 .u8 ys hb (by omega)) (fun _ _ => trivial)
section
variable {ops : Array Oper} {rest : List Oper} {o : Oper} {a : Act} {Q : Exit → Act → World → Prop} {W : World}
/-- A literal, and a row behind it. -/
theorem app_lit {W0 w0 : World} (hw : Region.wanted o (yielded ops a.tmps) = true) (s x : Operand) (ho : o.op = .call { callee := .builtin .append, args := #[s, x], argTypes := #[29, 29] }) (ys D E : List Int) (A : Option Addr) (n c m : Nat) (hE : E = ys ++ D) (hm : m = ys.length + n)
    (hs : a.eval s = .slice (some ⟨W0.heap.size, 0, none⟩) ys.length ys.length) (hx : a.eval x = .slice A n c) (hC : Kd.C (Kd.int .u8) W0 A n D) (hB : Below w0.heap.size w0 W0) (hy : ys.length ≤ 1000) (hl : n ≤ 1000000)
    (h : ∀ A1 c1 w1, Kd.C (Kd.int .u8) w1 A1 m E → Below w0.heap.size w0 w1 → wpList Tryd.prog ops Q rest (a.put o.dst (.slice A1 m c1)) w1) : wpList Tryd.prog ops Q (o :: rest) a (W0.alloc (.cells (ys.map (Value.int .u8)).toArray 5)) := by
  refine wpList_step fun K hK => ?_
  have key : ∀ v1 w1, (Kd.int .u8).R 5 w1 w0.heap.size (fun _ => True) v1 (ys ++ D) → Below w0.heap.size w0 w1 → K (a.put o.dst v1) w1 := by
    intro v1 w1 hR hb
    obtain ⟨A1, c1, rfl⟩ := Kd.R_slice hR
    have hC1 := (Kd.R_reads' hR).2.2
    have e : (ys ++ D).length = m := by rw [List.length_append, hC.1, hm]
    rw [e] at hC1 ⊢
    subst hE
    exact hK _ _ (h A1 c1 w1 hC1 hb)
  have hst := Kd.R_append_rows_step (P := Tryd.prog) (ops := ops) (o := o) (a := a) (W := W0.alloc (.cells (ys.map (Value.int .u8)).toArray 5)) (Kc := K) (Q := Q) (Kd.int .u8) (w0 := w0) w0.heap.size hw s x 29 5 (.int .u8 0) 1 ho Tryd.underlying29 info5 rfl (by decide) (by decide) _ ys D A n c (fun _ => True) (fun _ => False) hs hx (lit_R W0 _ hB.size ys hy) (Kd.C_below hC (below_alloc (Below.refl _ _) _)) (fun _ _ h => h) (fun _ h => h.elim) (fun _ _ => trivial) (below_alloc hB _) (Nat.le_trans hB.size (below_alloc (Below.refl _ _) _).size) (by omega) (fun v1 w1 hR hb _ _ => key v1 w1 hR hb)
  rw [if_pos hw] at hst ⊢
  exact hst
/-- Four cells, stored. -/
theorem blk_store31 (hgd : o.guard = none) {p : Tmp} {v : Operand} (ho : o.op = .store 31 (.tmp p) v) (hN : o.dst = none) {g : Nat} {B : Nat} {w0 : World} {n p1 m : Int} {A : Option Addr} {l c : Nat} {T : TypeId} (hb : W.heap[g]? = some (.cells #[.int .u32 0, .int .u8 0, .int .u64 0, .slice none 0 0] T (0, 0))) (hB : Below B w0 W) (hg : B ≤ g)
    (hp : a.eval (.tmp p) = .pointer (some ⟨g, 0, none⟩)) (hv : a.eval v = .agg #[.int .u32 n, .int .u8 p1, .int .u64 m, .slice A l c])
    (h : ∀ w1, w1.heap[g]? = some (.cells #[.int .u32 n, .int .u8 p1, .int .u64 m, .slice A l c] T (0, 0)) → Below B w0 w1 → wpList Tryd.prog ops Q rest a w1) : wpList Tryd.prog ops Q (o :: rest) a W := by
  have k0 : W.cell? ⟨g, 0, none⟩ = some (.int .u32 0) := (cell_of_blk hb (i := 0) rfl).1
  have k1 : W.cell? ⟨g, 1, none⟩ = some (.int .u8 0) := (cell_of_blk hb (i := 1) rfl).1
  have k2 : W.cell? ⟨g, 2, none⟩ = some (.int .u64 0) := (cell_of_blk hb (i := 2) rfl).1
  have k3 : W.cell? ⟨g, 3, none⟩ = some (.slice none 0 0) := (cell_of_blk hb (i := 3) rfl).1
  have f0 := (cell_of_blk hb (i := 0) rfl).2
  have f1 := (cell_of_blk hb (i := 1) rfl).2
  have f2 := (cell_of_blk hb (i := 2) rfl).2
  have f3 := (cell_of_blk hb (i := 3) rfl).2
  have hr : (execOp a.eval o).run Tryd.prog W = .ok .skip ((((W.setCell ⟨g, 0, none⟩ (.int .u32 n)).setCell ⟨g, 1, none⟩ (.int .u8 p1)).setCell ⟨g, 2, none⟩ (.int .u64 m)).setCell ⟨g, 3, none⟩ (.slice A l c)) := by
    unfold execOp
    rw [ho]
    simp only [hp, hv]
    simp [go_sem, k0, k1, k2, k3, f0, f1, f2, f3]
  refine store_event hgd ho hN hr fun w1 e => ?_
  subst e
  exact h _ (bx_set (bx_set (bx_set (bx_set hb)))) ((((hB.setCell hg _).setCell hg _).setCell hg _).setCell hg _)
end
def IsFormsL (w : World) (n p : Int) (l : Nat) (D : List Int) (e : Ending) (w' : World) : Prop :=
  ∃ A1 c1 A2 c2 A3 c3 A4 c4, e = .returned (.tuple #[.slice A1 l c1, .slice A2 (l + 1) c2, .slice A3 (l + 1) c3, .slice A4 (l + 2) c4, .bool true]) ∧
    Kd.C (Kd.int .u8) w' A1 l D ∧ Kd.C (Kd.int .u8) w' A2 (l + 1) (n :: D) ∧ Kd.C (Kd.int .u8) w' A3 (l + 1) (p :: D) ∧ Kd.C (Kd.int .u8) w' A4 (l + 2) (n :: p :: D) ∧ Below w.heap.size w w'
theorem forms_l {w : World} {n p : Int} {D : List Int} {e : Ending} {w' : World} (h : IsForms w n p D e w') : IsFormsL w n p D.length D e w' := h
set_option maxRecDepth 100000 in
set_option maxHeartbeats 16000000 in
theorem forms_main (q : Nat) (m : Int) (ks : List Int) (A : Option Addr) (n c : Nat) (items : List (List Int)) (w : World) (hk : ks.length = 16) (hC : Kd.C (Kd.slice 5 (Kd.int .u8)) w A n items) (hn : items.length = n) (hc : n ≤ c) (h1 : 1 ≤ n) (h20 : n ≤ 20) (h60 : ∀ x ∈ items, x.length ≤ 60)
    (hp1 : 1 ≤ q) (hp24 : q ≤ 24) (hm1 : 1 ≤ m) (hm : m ≤ 16 * 2 ^ q) (hcd : impl_coded.f (q : Int) m = some true)
    (H1 : ∀ w1, Below w.heap.size w w1 → Calls Tryd.prog 6 #[.slice A n c] w1 fun e w' => e = .returned (.bool true) ∧ Below w1.heap.size w1 w')
    (H2 : ∀ w1, Below w.heap.size w w1 → Calls Tryd.prog 7 #[.int .u8 (q : Int), .int .u64 m] w1 fun e w' => e = .returned (.bool true) ∧ Below w1.heap.size w1 w')
    (H3 : ∀ w1, Below w.heap.size w w1 → Calls Tryd.prog 8 #[.slice A n c] w1 fun e w' => e = .returned (.bool true) ∧ Below w1.heap.size w1 w') :
    Calls Tryd.prog 5 #[.int .u8 (q : Int), .int .u64 m, .agg (ks.map (Value.int .u8)).toArray, .slice A n c] w fun e w' => e = .returned (.bool true) ∧ Below w.heap.size w w' := by
  obtain ⟨g1, g2, g3⟩ := f_facts hp24 hm1 hm h1 h20
  obtain ⟨D, hD⟩ : ∃ D, D = dataI q ((n : Int) * m) ks items n := ⟨_, rfl⟩
  obtain ⟨d1, d2⟩ := dataI_length (ks := ks) (items := items) hp24 g3 g2 h1 h20
  rw [← hD] at d1 d2
  have HCO : Aside0 (∀ W, Below w.heap.size w W → Calls Tryd.prog 11 #[.int .u8 (q : Int), .int .u64 m, .agg (ks.map (Value.int .u8)).toArray, .slice A n c] W (IsBytes W D)) := ⟨fun W hb => by rw [hD]; exact coded_calls q m _ ks A n c items W hk (Kd.C_below hC hb) hn hc h1 h20 h60 hp1 hp24 g1 g2 g3⟩
  have HFO : Aside0 (∀ AD cD W, Kd.C (Kd.int .u8) W AD D.length D → D.length ≤ cD → Calls Tryd.prog 13 #[.agg #[.int .u32 (n : Int), .int .u8 (q : Int), .int .u64 m, .slice AD D.length cD]] W (IsFormsL W n q D.length D)) := ⟨fun AD cD W h hc => (forms_calls q m _ n AD cD D W h hc (by omega) (by omega) (by omega) hcd rfl (by omega) (by omega)).mono fun _ _ h => forms_l h⟩
  have HFN : Aside0 (∀ AD cD W, Kd.C (Kd.int .u8) W AD (D.length + 1) ((n : Int) :: D) → Calls Tryd.prog 14 #[.int .u8 (q : Int), .int .u64 m, .slice AD (D.length + 1) cD] W (IsTold W n q m D)) := ⟨fun AD cD W h => fromN_calls q m _ n AD cD D W h (by omega) (by omega) (by omega) rfl (by omega) d1⟩
  have HS : Aside0 (∀ (E : List Int) (k : Nat) (A0 : Option Addr) (c0 : Nat) (A1 : Option Addr) (c1 : Nat) (w : World), Kd.C (Kd.int .u8) w A0 k E → Kd.C (Kd.int .u8) w A1 k E → Calls Tryd.prog 10 #[.slice A0 k c0, .slice A1 k c1] w fun e w' => e = .returned (.bool true) ∧ Below w.heap.size w w') := ⟨same_any⟩
  have e8 : (n : Int) % 256 = n := by omega
  have e32 : (n : Int) % 4294967296 = n := by omega
  have hn1 : ¬ (n : Int) < 1 := by omega
  obtain ⟨X, hX⟩ : ∃ X, X = (ks.map (Value.int .u8)).toArray := ⟨_, rfl⟩
  rw [← hX] at HCO ⊢
  have HXS : Aside0 ((Tryd.prog.info? 23).map (·.size) = some X.size) := ⟨by rw [show (Tryd.prog.info? 23).map (·.size) = some 16 by kernel_rfl, hX]; simp [hk]⟩
  obtain ⟨l, hl⟩ : ∃ l, l = D.length := ⟨_, rfl⟩
  have HL := Aside0.mk hl
  have HDL : Aside0 (l ≤ 870) := ⟨by omega⟩
  rw [← hl] at HFO HFN
  have HB := Aside0.mk (Below.refl w.heap.size w)
  have H1 := Aside0.mk H1
  have H2 := Aside0.mk H2
  have H3 := Aside0.mk H3
  clear hX hk hC hn hc h1 h20 h60 hp1 hp24 hm1 hm hcd g1 g2 g3 hD d1 d2 hl
  go_enter Tryd.func5, Tryd.ntmps5
  go_wp2_with (first
    | ((with_reducible refine gate_dst (N := 6) rfl ?_); refine box_event ?hg (N := 6) ?hd (cs := X) (t := 23) ?hr ?_; (case hd => rfl); (case hg => rfl); (case hr => first | (go_simp; done) | (go_simp; rfl)); intro gk hg w1 hbox hb1; have HK1 := Aside0.mk hbox; have HB1 := Aside0.mk (below_step HB.out hb1); clear hg hbox hb1)
    | (go_at_call 6; refine (H1.out _ HB1.out).mono ?_; rintro e2 w2 ⟨rfl, hb2⟩; have HK2 := Aside0.mk (blk_below HK1.out hb2); have HB2 := Aside0.mk (below_step HB1.out hb2); clear hb2)
    | (go_at_call 7; refine (H2.out _ HB2.out).mono ?_; rintro e3 w3 ⟨rfl, hb3⟩; have HK3 := Aside0.mk (blk_below HK2.out hb3); have HB3 := Aside0.mk (below_step HB2.out hb3); clear hb3)
    | (go_at_call 8; refine (H3.out _ HB3.out).mono ?_; rintro e4 w4 ⟨rfl, hb4⟩; have HK4 := Aside0.mk (blk_below HK3.out hb4); have HB4 := Aside0.mk (below_step HB3.out hb4); clear hb4)
    | ((with_reducible show wpList _ _ _ _ _ _); (with_reducible refine wpList_load_row (o := ⟨some 37, _, _, _, _, _⟩) rfl 23 (.tmp 6) rfl gk rfl 23 X (0, 0) _ HK4.out Tryd.underlying23 rfl HXS.out ?_))
    | (go_at_call 11; refine (HCO.out _ HB4.out).mono ?_; intro e5 w5 hq; unfold IsBytes at hq; obtain ⟨AD, cD, rfl, hcD, hC5, hb5⟩ := hq; rw [← HL.out] at hC5 hcD ⊢; have HC5 := Aside0.mk hC5; have HCD := Aside0.mk hcD; have HB5 := Aside0.mk (below_step HB4.out hb5); clear hC5 hb5 hcD)
    | (go_at_call 13; refine (HFO.out AD cD _ HC5.out HCD.out).mono ?_; intro e6 w6 hq; unfold IsFormsL at hq; obtain ⟨A1, c1, A2, c2, A3, c3, A4, c4, rfl, hq1, hq2, hq3, hq4, hb6⟩ := hq; have HC1 := Aside0.mk hq1; have HC2 := Aside0.mk hq2; have HC3 := Aside0.mk hq3; have HC4 := Aside0.mk hq4; have HC6 := Aside0.mk (Kd.C_below HC5.out hb6); have HB6 := Aside0.mk (below_step HB5.out hb6); clear hq1 hq2 hq3 hq4 hb6)
    | ((with_reducible refine gate_builtin (b := .append) (xs := #[.tmp 60, .tmp 61]) rfl ?_); refine app_lit (w0 := w6) (by first | rfl | (go_simp; done)) (.tmp 60) (.tmp 61) rfl [(n : Int)] D ((n : Int) :: D) AD l cD (l + 1) rfl (by show l + 1 = 1 + l; omega) rfl rfl HC6.out (Below.refl _ _) (by simp) (by have := HDL.out; omega) ?_; intro A7 c7 w7 hC7 hb7; have HC7 := Aside0.mk hC7; have HW7 := Aside0.mk hb7; clear hC7 hb7)
    | (go_at_call 14; refine (HFN.out A7 c7 _ HC7.out).mono ?_; intro e8 w8 hq; unfold IsTold at hq; obtain ⟨A8, c8, rfl, hC8, hb8⟩ := hq; rw [← HL.out] at hC8 ⊢; have HC8 := Aside0.mk hC8; have HW8 := Aside0.mk (below_step HW7.out hb8); clear hC8 hb8)
    | ((with_reducible refine gate_dst (N := 16) rfl ?_); refine box_event ?hg (N := 16) ?hd (cs := #[.int .u32 0, .int .u8 0, .int .u64 0, .slice none 0 0]) (t := 31) ?hr ?_; (case hd => rfl); (case hg => rfl); (case hr => first | (go_simp; done) | (go_simp; rfl)); intro g hg w9 hbox hb9; have HG9 := Aside0.mk hbox; have HGE : Aside0 (w8.heap.size ≤ g) := ⟨by rw [hg]; exact Nat.le_refl _⟩; have HW9 := Aside0.mk hb9; clear hg hbox hb9)
    | ((with_reducible refine gate_store (t := 31) (p := 16) rfl ?_); refine blk_store31 rfl rfl rfl HG9.out HW9.out HGE.out rfl rfl ?_; intro w10 hG hB; have HG := Aside0.mk hG; have HW10 := Aside0.mk hB; have HV := Aside0.mk (below_step HW8.out hB); have D1 := Aside0.mk (Kd.C_below HC1.out HV.out); have D2 := Aside0.mk (Kd.C_below HC2.out HV.out); have D3 := Aside0.mk (Kd.C_below HC3.out HV.out); have D4 := Aside0.mk (Kd.C_below HC4.out HV.out); have DD := Aside0.mk (Kd.C_below HC6.out HV.out); have D8 := Aside0.mk (Kd.C_below HC8.out HW10.out); have HBX := Aside0.mk (below_step HB6.out HV.out); have T0 := Aside0.mk (Below.refl w10.heap.size w10); clear hG hB)
    | (go_at_call 10; with_reducible refine (HS.out (D) (l) A1 c1 AD cD _ D1.out DD.out).mono ?_; rintro eT1 ws1 ⟨rfl, hbs⟩; have T1 := Aside0.mk (below_step T0.out hbs); clear hbs)
    | ((with_reducible refine gate_builtin (b := .append) (xs := #[.tmp 77, .tmp 78]) rfl ?_); refine app_lit (w0 := w10) (by first | rfl | (go_simp; done)) (.tmp 77) (.tmp 78) rfl [(n : Int)] D ((n : Int) :: D) AD l cD (l + 1) rfl (by show l + 1 = 1 + l; omega) rfl rfl (Kd.C_below DD.out T1.out) T1.out (by simp) (by have := HDL.out; omega) ?_; intro Ap2 cp2 wp2 hCp hbp; have P2 := Aside0.mk hCp; have T2 := Aside0.mk hbp; clear hCp hbp)
    | (go_at_call 10; with_reducible refine (HS.out ((n : Int) :: D) (l + 1) A2 c2 Ap2 cp2 _ (Kd.C_below D2.out T2.out) P2.out).mono ?_; rintro eT3 ws2 ⟨rfl, hbs⟩; have T3 := Aside0.mk (below_step T2.out hbs); clear hbs)
    | ((with_reducible refine gate_builtin (b := .append) (xs := #[.tmp 86, .tmp 87]) rfl ?_); refine app_lit (w0 := w10) (by first | rfl | (go_simp; done)) (.tmp 86) (.tmp 87) rfl [(q : Int)] D ((q : Int) :: D) AD l cD (l + 1) rfl (by show l + 1 = 1 + l; omega) rfl rfl (Kd.C_below DD.out T3.out) T3.out (by simp) (by have := HDL.out; omega) ?_; intro Ap3 cp3 wp3 hCp hbp; have P3 := Aside0.mk hCp; have T4 := Aside0.mk hbp; clear hCp hbp)
    | (go_at_call 10; with_reducible refine (HS.out ((q : Int) :: D) (l + 1) A3 c3 Ap3 cp3 _ (Kd.C_below D3.out T4.out) P3.out).mono ?_; rintro eT5 ws3 ⟨rfl, hbs⟩; have T5 := Aside0.mk (below_step T4.out hbs); clear hbs)
    | ((with_reducible refine gate_builtin (b := .append) (xs := #[.tmp 96, .tmp 97]) rfl ?_); refine app_lit (w0 := w10) (by first | rfl | (go_simp; done)) (.tmp 96) (.tmp 97) rfl [(n : Int), (q : Int)] D ((n : Int) :: (q : Int) :: D) AD l cD (l + 2) rfl (by show l + 2 = 2 + l; omega) rfl rfl (Kd.C_below DD.out T5.out) T5.out (by simp) (by have := HDL.out; omega) ?_; intro Ap4 cp4 wp4 hCp hbp; have P4 := Aside0.mk hCp; have T6 := Aside0.mk hbp; clear hCp hbp)
    | (go_at_call 10; with_reducible refine (HS.out ((n : Int) :: (q : Int) :: D) (l + 2) A4 c4 Ap4 cp4 _ (Kd.C_below D4.out T6.out) P4.out).mono ?_; rintro eT7 ws4 ⟨rfl, hbs⟩; have T7 := Aside0.mk (below_step T6.out hbs); have HGZ := Aside0.mk (blk_below HG.out T7.out); have k0 : ws4.cell? ⟨g, 0, none⟩ = some (.int .u32 n) := (cell_of_blk HGZ.out (i := 0) rfl).1; have k1 : ws4.cell? ⟨g, 1, none⟩ = some (.int .u8 q) := (cell_of_blk HGZ.out (i := 1) rfl).1; have k2 : ws4.cell? ⟨g, 2, none⟩ = some (.int .u64 m) := (cell_of_blk HGZ.out (i := 2) rfl).1; have k3 : ws4.cell? ⟨g, 3, none⟩ = some (.slice A8 l c8) := (cell_of_blk HGZ.out (i := 3) rfl).1; clear hbs)
    | (go_at_call 10; with_reducible refine (HS.out (D) (l) A8 c8 AD cD _ (Kd.C_below D8.out T7.out) (Kd.C_below DD.out T7.out)).mono ?_; rintro eT8 ws5 ⟨rfl, hbs⟩; have T8 := Aside0.mk (below_step T7.out hbs); clear hbs)
    | fail)
  exact bodyPost_ret (results_tmp rfl _ _ _) rfl ⟨rfl, below_step HBX.out T8.out⟩
end Go.Proofs.YtfhkkojdaejnjaaDoor.Gcs
