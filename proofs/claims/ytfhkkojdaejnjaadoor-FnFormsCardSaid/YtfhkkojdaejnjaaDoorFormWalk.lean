/-
  A filter's forms: behind N, behind P, behind both.
-/
import Derived.Test.YtfhkkojdaejnjaaDoorFltWalk
import Derived.Deep.RegionLaw
namespace Go.Proofs.YtfhkkojdaejnjaaDoor.Gcs
open Go.RowKit Go.Proofs.YtfhkkojdaejnjaaDoor.Hand Go.Proofs.YtfhkkojdaejnjaaDoor.Buf Go.Proofs.YtfhkkojdaejnjaaDoor.PFnForms Go.Proofs.YtfhkkojdaejnjaaDoorW.PrintWords Go.Proofs.YtfhkkojdaejnjaaDoorW.PrintLast Go.Proofs.YtfhkkojdaejnjaaDoorW.PrintMore

def IsRow (w : World) (D : List Int) (e : Ending) (w' : World) : Prop := ∃ v, e = .returned (.tuple #[v, .nilIface]) ∧ (Kd.int .u8).R 5 w' w.heap.size (fun _ => True) v D ∧ Below w.heap.size w w'
def IsOne (w : World) (D : List Int) (e : Ending) (w' : World) : Prop := ∃ v, e = .returned v ∧ (Kd.int .u8).R 5 w' w.heap.size (fun _ => True) v D ∧ Below w.heap.size w w'
theorem varint_R (n : Int) (w : World) (h0 : 0 ≤ n) (h1 : n < 253) : Calls Tryd.prog 45 #[.int .u64 n] w (IsOne w [n]) :=
  (varint_calls n w h0 h1).mono fun e w' ⟨a, b⟩ => by
    subst b
    refine ⟨_, a, ?_, (Below.refl _ _).alloc (Nat.le_refl _) _⟩
    have h := own_lit w w.heap.size 5 .u8 [n] (Nat.le_refl _) (by simp)
    exact Kd.R_of_own (enc := Value.int .u8) (h1 := fun _ => rfl) (xs := [n]) h (fun _ _ => trivial)

theorem step_calls {P : Program} {ops : Array Oper} {o : Oper} {a : Act} {W : World} {Kc : Act → World → Prop} {Q : Exit → Act → World → Prop} {E : Prop} (hgd : o.guard = none) {f : FuncId} {vals : Array Value} {Post : Ending → World → Prop}
    (hrun : (execOp a.eval o).run P W = .ok (.enter f vals) W) (hc : Calls P f vals W Post) (hp : ∀ e w1, Post e w1 → ∃ v, e = .returned v ∧ Kc (a.put o.dst v) w1) :
    if Region.wanted o (yielded ops a.tmps) = true then Oper.wp P o a W Kc Q else E := by
  rw [if_pos (by simp [Region.wanted, hgd])]
  unfold Oper.wp
  rw [hrun, Oper.upon_enter]
  exact hc.mono fun e w1 h => by
    obtain ⟨v, rfl, hk⟩ := hp e w1 h
    exact hk
set_option maxRecDepth 100000 in
set_option maxHeartbeats 8000000 in
theorem nbytes_calls (f : Nat) (n p md : Int) (A : Option Addr) (c : Nat) (D : List Int) (w : World) (hF : Flt w f n p md A c D) (hD : D.length ≤ 1000000) (h0 : 0 ≤ n) (h1 : n < 253) : Calls Tryd.prog 28 #[.pointer (some ⟨f, 0, none⟩)] w (IsRow w (n :: D)) := by
  obtain ⟨k0, k1, k2, k3⟩ := hF.cells
  have HF := Aside0.mk hF
  clear hF k1 k2
  obtain ⟨l, hl⟩ : ∃ l, l = D.length := ⟨_, rfl⟩
  have HL := Aside0.mk hl
  rw [← hl] at hD k3
  have HV : Aside0 (∀ W, Calls Tryd.prog 45 #[.int .u64 (IntKind.u64.wrap n)] W (IsOne W [n])) := ⟨fun W => by rw [wrap_id h0 (by omega)]; exact varint_R n W h0 h1⟩
  clear hl
  go_enter Tryd.func28, Tryd.ntmps28
  go_wp2_with fail
  go_region_law (first
    | (refine step_calls (o := ⟨some 9, _, _, _, _, _⟩) rfl (f := 45) (vals := #[.int .u64 (IntKind.u64.wrap n)]) (by go_simp) (HV.out _) ?_; intro e1 w1 hq; unfold IsOne at hq; obtain ⟨v1, rfl, hR1, hb1⟩ := hq; refine ⟨_, rfl, ?_⟩; have HB1 := Aside0.mk (show Below w.heap.size w w1 from below_step (below_drew (Below.refl _ _)) hb1); have HR1 := Aside0.mk hR1; have HF1 := Aside0.mk (HF.out.below HB1.out); have k4 := HF1.out.cells.2.2.2; rw [← HL.out] at k4; clear hR1 hb1)
    | (refine Kd.R_append_rows_step (Kd.int .u8) (w0 := w) w.heap.size rfl (.tmp 9) (.tmp 13) 29 5 (.int .u8 0) 1 rfl Tryd.underlying29 info5 rfl (by decide) (by decide) v1 [n] D A l c (fun _ => True) (fun _ => False) rfl rfl HR1.out (by rw [HL.out]; exact HF1.out.C) (fun _ _ h => h) (fun _ h => h.elim) (fun _ _ => trivial) HB1.out HB1.out.size (by simp; omega) ?_; intro v2 w2 hR2 hb2 _ _; have HR2 := Aside0.mk hR2; have HB2 := Aside0.mk hb2; clear hR2 hb2))
  all_goals
    go_wp2_with fail
    exact bodyPost_ret (results_tmp2 rfl _ _ _) rfl ⟨_, rfl, HR2.out, HB2.out⟩

end Go.Proofs.YtfhkkojdaejnjaaDoor.Gcs
