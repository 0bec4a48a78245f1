/-
  spec.lessIn.
-/
import Derived.Test.YtpggphjnghhmeaaTxPre
namespace Go.Proofs.Ytpggphjnghhmeaa.Srt
open Go.RowKit Go.Proofs.Ytpggphjnghhmeaa.Hand Go.Proofs.Ytpggphjnghhmeaa.PFnSorted Go.Proofs.YtpggphjnghhmeaaW.PrintWords Go.Proofs.YtpggphjnghhmeaaW.PrintLast Go.Proofs.YtpggphjnghhmeaaW.PrintMore

theorem cell_at {w : World} {g : Nat} {x : In40} {T : TypeId} (hl : x.h.length = 32) (h : w.heap[g]? = some (.cells (cell40 x).toArray T (0, 0))) {k : Nat} (hk : k < 32) : w.cell? ⟨g, k, none⟩ = some (.int .u8 (x.h.getD k 0)) := by
  rw [blk_cell h, List.getElem?_toArray]
  unfold cell40
  rw [List.getElem?_append_left (by simp [hl]; exact hk)]
  exact getD_get (by omega)
set_option maxRecDepth 100000 in
set_option maxHeartbeats 8000000 in
theorem lessIn_calls (x y : In40) (w : World) (hx : x.h.length = 32) (hy : y.h.length = 32) :
    Calls Try.prog 11 #[.agg (cell40 x).toArray, .agg (cell40 y).toArray] w fun e w' => e = .returned (.bool (lessI x y)) ∧ Below w.heap.size w w' := by
  obtain ⟨X, hX⟩ : ∃ X, X = (cell40 x).toArray := ⟨_, rfl⟩
  obtain ⟨Y, hY⟩ : ∃ Y, Y = (cell40 y).toArray := ⟨_, rfl⟩
  rw [← hX, ← hY, ← lnI_32 x y hx hy]
  have HX := Aside0.mk hX
  have HY := Aside0.mk hY
  have HHX := Aside0.mk hx
  have HHY := Aside0.mk hy
  have HB := Aside0.mk (Below.refl w.heap.size w)
  have hXs : X.size = 33 := by rw [hX]; simp [cell40_length hx]
  have hYs : Y.size = 33 := by rw [hY]; simp [cell40_length hy]
  clear hX hY hx hy
  go_enter Try.func11, Try.ntmps11
  go_wp2_with (first
    | ((with_reducible refine gate_dst (N := 2) rfl ?_); refine box_event ?hg (N := 2) ?hd (cs := X) (t := 40) ?hr ?_; (case hd => rfl); (case hg => rfl); (case hr => first | (go_simp; done) | (go_simp; rfl)); intro g2 hg w1 hbox hb1; have HG1 := Aside0.mk hbox; have HB1 := Aside0.mk hb1; clear hg hbox hb1)
    | ((with_reducible refine gate_dst (N := 3) rfl ?_); refine box_event ?hg (N := 3) ?hd (cs := Y) (t := 40) ?hr ?_; (case hd => rfl); (case hg => rfl); (case hr => first | (go_simp; done) | (go_simp; rfl)); intro g3 hg w2 hbox hb2; have HG3 := Aside0.mk hbox; have HG2 := Aside0.mk ((hb2.block g2 (blk_lt HG1.out)).trans HG1.out); have HB2 := Aside0.mk (below_step HB1.out hb2); clear hg hbox hb2)
    | fail)
  clear hXs hYs
  go_loopw [5] (fun v5 wr => ∃ k : Nat, v5 = .int .i64 ((k : Int) - 1) ∧ k ≤ 32 ∧ Aside0 (lnI x y 32 = lnI x y k) ∧ Aside0 (∃ q, wr = w2.drewN q)) (fun v5 _ => (intOf v5 + 1).toNat)
  case atStart => exact ⟨32, rfl, Nat.le_refl _, ⟨rfl⟩, ⟨0, rfl⟩⟩
  case round =>
    obtain ⟨k, rfl, hk, HE, HQ⟩ := hrel
    obtain ⟨q, rfl⟩ := HQ.out
    clear HQ
    cases k with
    | zero =>
      have hneg : ¬ (0 : Int) ≤ -1 := by decide
      have kx := index_at HHX.out (by rw [← HX.out]; exact HG2.out)
      have ky := index_at HHY.out (by rw [← HY.out]; exact HG3.out)
      have HR : Aside0 (lnI x y 32 = decide (x.i < y.i)) := ⟨by rw [HE.out]; rfl⟩
      go_wp2_with fail
      refine bodyPost_ret (results_tmp rfl _ _ _) rfl ⟨by rw [HR.out]; rfl, ?_⟩
      apply pw_below_drewN
      exact HB2.out
    | succ m =>
      have e1 : ((m + 1 : Nat) : Int) - 1 = (m : Int) := by omega
      rw [e1]
      have m0 : (0 : Int) ≤ (m : Int) := by omega
      have m32 : (m : Int) < 32 := by omega
      have kx := cell_at HHX.out (by rw [← HX.out]; exact HG2.out) (show m < 32 by omega)
      have ky := cell_at HHY.out (by rw [← HY.out]; exact HG3.out) (show m < 32 by omega)
      have HR : Aside0 (lnI x y 32 = if x.h.getD m 0 = y.h.getD m 0 then lnI x y m else decide (x.h.getD m 0 < y.h.getD m 0)) := ⟨by rw [HE.out]; rfl⟩
      clear e1
      generalize x.h.getD m 0 = a at kx HR
      generalize y.h.getD m 0 = b at ky HR
      by_cases hab : a = b
      · subst hab
        have HR2 : Aside0 (lnI x y 32 = lnI x y m) := ⟨by rw [HR.out, if_pos rfl]⟩
        clear HR
        go_wp2_with fail
        go_quiet (fail)
        go_wp2_with fail
        go_roundw
        case rel => exact ⟨m, rfl, by omega, HR2, ⟨_, rfl⟩⟩
        case measure => simp only [intOf]; omega
      · have HR2 : Aside0 (lnI x y 32 = decide (a < b)) := ⟨by rw [HR.out, if_neg hab]⟩
        clear HR
        go_wp2_with fail
        go_quiet (fail)
        go_wp2_with fail
        go_quiet (fail)
        go_wp2_with fail
        refine bodyPost_ret (results_tmp rfl _ _ _) rfl ⟨by rw [HR2.out]; rfl, ?_⟩
        apply pw_below_drewN
        apply pw_below_drewN
        apply pw_below_drewN
        exact HB2.out
end Go.Proofs.Ytpggphjnghhmeaa.Srt
