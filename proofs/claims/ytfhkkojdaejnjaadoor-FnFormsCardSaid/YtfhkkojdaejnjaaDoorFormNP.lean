/-
  A filter's bytes behind N and P.
-/
import Derived.Test.YtfhkkojdaejnjaaDoorFormWalk
import Derived.Deep.RegionLaw
import Derived.Deep.RegionHeld3
namespace Go.Proofs.YtfhkkojdaejnjaaDoor.Gcs
open Go.RowKit Go.Proofs.YtfhkkojdaejnjaaDoor.Hand Go.Proofs.YtfhkkojdaejnjaaDoor.Buf Go.Proofs.YtfhkkojdaejnjaaDoor.PFnForms Go.Proofs.YtfhkkojdaejnjaaDoorW.PrintWords Go.Proofs.YtfhkkojdaejnjaaDoorW.PrintLast Go.Proofs.YtfhkkojdaejnjaaDoorW.PrintMore

theorem lit_C {w w1 : World} {p : Int} (hb1 : Below ((w.alloc (.cells #[.int .u8 p] 5)).drew).heap.size ((w.alloc (.cells #[.int .u8 p] 5)).drew) w1) : Kd.C (Kd.int .u8) w1 (some ⟨w.heap.size, 0, none⟩) 1 [p] :=
  Kd.C_below (C_of_block (e := 5) (fr := (0, 0)) (xs := [p]) (blk_drew (blk_new w _)) (by simp)) hb1
set_option maxRecDepth 100000 in
set_option maxHeartbeats 8000000 in
theorem npbytes_calls (f : Nat) (n p md : Int) (A : Option Addr) (c : Nat) (D : List Int) (w : World) (hF : Flt w f n p md A c D) (hD : D.length ≤ 1000000) (h0 : 0 ≤ n) (h1 : n < 253) : Calls Tryd.prog 30 #[.pointer (some ⟨f, 0, none⟩)] w (IsRow w (n :: p :: D)) := by
  obtain ⟨k0, k1, k2, k3⟩ := hF.cells
  have HF := Aside0.mk hF
  clear hF k2
  obtain ⟨l, hl⟩ : ∃ l, l = D.length := ⟨_, rfl⟩
  have HL := Aside0.mk hl
  rw [← hl] at hD k3
  have HV : Aside0 (∀ W, Calls Tryd.prog 45 #[.int .u64 (IntKind.u64.wrap n)] W (IsOne W [n])) := ⟨fun W => by rw [wrap_id h0 (by omega)]; exact varint_R n W h0 h1⟩
  clear hl
  go_enter Tryd.func30, Tryd.ntmps30
  go_wp2_with fail
  go_region_held3 (fun w' => w'.cell? ⟨f, 0, none⟩ = some (.int .u32 n) ∧ w'.cell? ⟨f, 1, none⟩ = some (.int .u8 p) ∧ w'.cell? ⟨f, 3, none⟩ = some (.slice A l c))
    (first | (with_reducible exact ⟨k0, k1, k3⟩) | (with_reducible exact ⟨pw_cell_below HB2.out k0, pw_cell_below HB2.out k1, pw_cell_below HB2.out k3⟩) | (with_reducible exact ⟨pw_cell_below HB3.out k0, pw_cell_below HB3.out k1, pw_cell_below HB3.out k3⟩) | (with_reducible exact ⟨pw_cell_below (below_alloc HB1.out _) k0, pw_cell_below (below_alloc HB1.out _) k1, pw_cell_below (below_alloc HB1.out _) k3⟩) | (with_reducible exact ⟨pw_cell_below HB1.out k0, pw_cell_below HB1.out k1, pw_cell_below HB1.out k3⟩) | (with_reducible exact ⟨pw_cell_below (below_alloc (below_drew (Below.refl _ _)) _) k0, pw_cell_below (below_alloc (below_drew (Below.refl _ _)) _) k1, pw_cell_below (below_alloc (below_drew (Below.refl _ _)) _) k3⟩) | (with_reducible exact ⟨pw_cell_below (below_drew (below_alloc (Below.refl _ _) _)) k0, pw_cell_below (below_drew (below_alloc (Below.refl _ _) _)) k1, pw_cell_below (below_drew (below_alloc (Below.refl _ _) _)) k3⟩) | go_keep)
    (first
    | (refine step_calls (o := ⟨some 9, _, _, _, _, _⟩) rfl (f := 45) (vals := #[.int .u64 (IntKind.u64.wrap n)]) (by go_simp) (HV.out _) ?_; intro e1 w1 hq; unfold IsOne at hq; obtain ⟨v1, rfl, hR1, hb1⟩ := hq; refine ⟨_, rfl, ?_⟩; have HB1 := Aside0.mk (show Below w.heap.size w w1 from below_step (by repeat (first | (with_reducible exact Below.refl _ _) | apply below_drew1 | apply pw_below_drewN | apply below_alloc)) hb1); have HR1 := Aside0.mk (Kd.R_lower hR1 (show w.heap.size ≤ _ from Below.size (B := w.heap.size) (w := w) (by repeat (first | (with_reducible exact Below.refl _ _) | apply below_drew1 | apply pw_below_drewN | apply below_alloc)))); have HCL := Aside0.mk (lit_C hb1); have HF1 := Aside0.mk (HF.out.below HB1.out); clear hR1 hb1)
    | (refine step_calls (o := ⟨some 9, _, _, _, _, _⟩) rfl (f := 45) (vals := #[.int .u64 (IntKind.u64.wrap n)]) (by go_simp) (HV.out _) ?_; intro e1 w1 hq; unfold IsOne at hq; obtain ⟨v1, rfl, hR1, hb1⟩ := hq; refine ⟨_, rfl, ?_⟩; have HB1 := Aside0.mk (show Below w.heap.size w w1 from below_step (by repeat (first | (with_reducible exact Below.refl _ _) | apply below_drew1 | apply pw_below_drewN | apply below_alloc)) hb1); have HR1 := Aside0.mk (Kd.R_lower hR1 (show w.heap.size ≤ _ from Below.size (B := w.heap.size) (w := w) (by repeat (first | (with_reducible exact Below.refl _ _) | apply below_drew1 | apply pw_below_drewN | apply below_alloc)))); have HF1 := Aside0.mk (HF.out.below HB1.out); clear hR1 hb1)
    | (refine Kd.R_append_step (Kd.int .u8) (w0 := w) w.heap.size rfl (.tmp 9) (.tmp 14) 29 5 (.int .u8 0) 1 rfl Tryd.underlying29 info5 rfl (by decide) (by decide) v1 [n] p [.int .u8 p] (fun _ => True) (fun _ => False) rfl rfl rfl (fun _ hk => hk.elim) (fun _ _ => trivial) HR1.out HB1.out HB1.out.size (by simp) ?_; intro v3 w3 hR3 hb3 _ _; have HR3 := Aside0.mk hR3; have HB3 := Aside0.mk hb3; have HF3 := Aside0.mk (HF.out.below HB3.out); clear hR3 hb3)
    | (refine Kd.R_append_rows_step (Kd.int .u8) (w0 := w) w.heap.size rfl (.tmp 15) (.tmp 19) 29 5 (.int .u8 0) 1 rfl Tryd.underlying29 info5 rfl (by decide) (by decide) v3 [n, p] D A l c (fun _ => True) (fun _ => False) rfl rfl HR3.out (by rw [HL.out]; exact HF3.out.C) (fun _ _ h => h) (fun _ h => h.elim) (fun _ _ => trivial) HB3.out HB3.out.size (by simp; omega) ?_; intro v2 w2 hR2 hb2 _ _; have HR2 := Aside0.mk hR2; have HB2 := Aside0.mk hb2; clear hR2 hb2)
    | (refine Kd.R_append_rows_step (Kd.int .u8) (w0 := w) w.heap.size rfl (.tmp 9) (.tmp 14) 29 5 (.int .u8 0) 1 rfl Tryd.underlying29 info5 rfl (by decide) (by decide) v1 [n] [p] _ 1 1 (fun _ => True) (fun _ => False) rfl rfl HR1.out HCL.out (fun _ _ h => h) (fun _ h => h.elim) (fun _ _ => trivial) HB1.out HB1.out.size (by simp) ?_; intro v3 w3 hR3 hb3 _ _; have HR3 := Aside0.mk hR3; have HB3 := Aside0.mk hb3; have HF3 := Aside0.mk (HF.out.below HB3.out); clear hR3 hb3))
  all_goals
    go_wp2_with fail
    exact bodyPost_ret (results_tmp2 rfl _ _ _) rfl ⟨_, rfl, HR2.out, HB2.out⟩
end Go.Proofs.YtfhkkojdaejnjaaDoor.Gcs
