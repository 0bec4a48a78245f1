/-
  txsort.Sort.
-/
import Derived.Test.YtpggphjnghhmeaaCopyWalk
namespace Go.Proofs.Ytpggphjnghhmeaa.Srt
open Go.RowKit Go.Proofs.Ytpggphjnghhmeaa.Hand Go.Proofs.Ytpggphjnghhmeaa.PFnSorted Go.Proofs.YtpggphjnghhmeaaW.PrintWords Go.Proofs.YtpggphjnghhmeaaW.PrintLast Go.Proofs.YtpggphjnghhmeaaW.PrintMore

theorem R_kept {α : Type} {d : Kd α} {e t : Nat} {W w3 : World} {base : Nat} {ok : Nat → Prop} {v v2 : Value} {ys : List α} (h : d.R e W base ok v ys) (hk : ∀ k, k < W.heap.size → some k ≠ v2.ownBlock → w3.heap[k]? = W.heap[k]?) (hv : ∀ k, v2.ownBlock = some k → ∃ cells, W.heap[k]? = some (.cells cells t (0, 0))) (ht : ∀ q, q ∈ e :: d.E → q ≠ t) : d.R e w3 base ok v ys := by
  refine Kd.R_mono (Kd.R_step (Kd.R_bound h) (fun k hq hlt => hk k hlt (fun e => ?_))) (fun k hk => hk.1)
  obtain ⟨_, _, _, q, hq, cells, hc⟩ := hq
  obtain ⟨cells2, hc2⟩ := hv k e.symm
  rw [hc] at hc2
  injection hc2 with hc2
  injection hc2 with _ hc2
  exact ht q hq hc2
set_option maxRecDepth 100000 in
set_option maxHeartbeats 8000000 in
theorem txsort_calls (gs : Nat) (A1 : Option Addr) (n1 c1 : Nat) (I : List In40) (A2 : Option Addr) (n2 c2 : Nat) (O : List S27) (w : World) (hM : Msg w gs A1 n1 c1 I A2 n2 c2 O) (h1 : n1 ≤ 12) (h2 : n2 ≤ 12) (hs : small O) :
    Calls Try.prog 15 #[.pointer (some ⟨gs, 0, none⟩)] w fun e w' => ∃ g A3 c3 A4 c4, e = .returned (.pointer (some ⟨g, 0, none⟩)) ∧ Msg w' g A3 n1 c3 (srt lessI n1 I) A4 n2 c4 (srt lessO n2 O) ∧ Below w.heap.size w w' := by
  have hil : I.length = n1 := hM.CI.1
  have hol : O.length = n2 := hM.CO.1
  have HC := Aside0.mk (copy_calls gs A1 n1 c1 I A2 n2 c2 O w hM h1 h2 hs)
  have HSI : Aside0 (∀ A c W, kPI.R 50 W w.heap.size (fun _ => True) (.slice A n1 c) I → Calls Try.prog 20 #[.iface 59 (.slice A n1 c)] W (IsSort kPI 50 W w.heap.size (.slice A n1 c) (srt lessI n1 I))) := ⟨fun A c W h => sortI_calls A n1 c I W w.heap.size h h1 trivial⟩
  have HSO : Aside0 (∀ A c W, kPO.R 54 W w.heap.size (fun _ => True) (.slice A n2 c) O → Calls Try.prog 20 #[.iface 60 (.slice A n2 c)] W (IsSort kPO 54 W w.heap.size (.slice A n2 c) (srt lessO n2 O))) := ⟨fun A c W h => sortO_calls A n2 c O W w.heap.size h h2 hs⟩
  have HIL := Aside0.mk hil
  have HOL := Aside0.mk hol
  clear hM hs hil hol
  go_enter Try.func15, Try.ntmps15
  go_wp2_with (first
    | (go_at_call 19; (with_reducible refine HC.out.mono ?_); rintro e1 w1 ⟨g, v1, v2, rfl, hO, hb1⟩; obtain ⟨A3, c3, rfl⟩ := Kd.R_slice hO.RI; obtain ⟨A4, c4, rfl⟩ := Kd.R_slice hO.RO; rw [HIL.out, HOL.out] at hO; have HO1 := Aside0.mk hO; have HB1 := Aside0.mk hb1; have k0 : w1.cell? ⟨g, 0, none⟩ = some (.slice A3 n1 c3) := (by rw [blk_cell hO.blk]; rfl); clear hO hb1)
    | (go_at_call 20; (with_reducible refine (HSI.out A3 c3 _ (Kd.R_mono HO1.out.RI (fun _ _ => trivial))).mono ?_); intro e2 w2 hq; unfold IsSort at hq; obtain ⟨rfl, hR2, hbel, hkeep, hsz⟩ := hq; have HR2 := Aside0.mk hR2; have HB2 := Aside0.mk (hbel _ _ (Nat.le_refl _) HB1.out); have HBK2 : Aside0 (w2.heap[g]? = some (.cells #[.slice A3 n1 c3, .slice A4 n2 c4] 49 (0, 0))) := ⟨(hkeep g (blk_lt HO1.out.blk) (fun e => HO1.out.RI.1 g e.symm rfl)).trans HO1.out.blk⟩; have HRO2 : Aside0 (kPO.R 54 w2 w.heap.size (fun k => k ≠ g) (.slice A4 n2 c4) O) := ⟨R_kept HO1.out.RO hkeep (R_typed HO1.out.RI) (by decide)⟩; have k1 : w2.cell? ⟨g, 1, none⟩ = some (.slice A4 n2 c4) := (by rw [blk_cell HBK2.out]; rfl); clear hR2 hbel hkeep hsz k0)
    | (go_at_call 20; (with_reducible refine (HSO.out A4 c4 _ (Kd.R_mono HRO2.out (fun _ _ => trivial))).mono ?_); intro e3 w3 hq; unfold IsSort at hq; obtain ⟨rfl, hR3, hbel, hkeep, hsz⟩ := hq; have HR3 := Aside0.mk hR3; have HB3 := Aside0.mk (hbel _ _ (Nat.le_refl _) HB2.out); have HBK3 : Aside0 (w3.heap[g]? = some (.cells #[.slice A3 n1 c3, .slice A4 n2 c4] 49 (0, 0))) := ⟨(hkeep g (blk_lt HBK2.out) (fun e => HRO2.out.1 g e.symm rfl)).trans HBK2.out⟩; have HRI3 : Aside0 (kPI.R 50 w3 w.heap.size (fun _ => True) (.slice A3 n1 c3) (srt lessI n1 I)) := ⟨R_kept HR2.out hkeep (R_typed HRO2.out) (by decide)⟩; clear hR3 hbel hkeep hsz k1)
    | fail)
  refine bodyPost_ret (results_tmp rfl _ _ _) rfl ⟨g, A3, c3, A4, c4, rfl, ⟨HBK3.out, ?_, ?_⟩, HB3.out⟩
  · have h := Kd.R_reads' HRI3.out
    have h2 := h.2.2
    rwa [← h.1] at h2
  · have h := Kd.R_reads' HR3.out
    have h2 := h.2.2
    rwa [← h.1] at h2
end Go.Proofs.Ytpggphjnghhmeaa.Srt
