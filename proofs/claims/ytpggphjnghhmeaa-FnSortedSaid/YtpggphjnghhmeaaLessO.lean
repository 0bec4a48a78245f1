/-
  The outputs' Less.
-/
import Derived.Test.YtpggphjnghhmeaaCmpWalk
namespace Go.Proofs.Ytpggphjnghhmeaa.Srt
open Go.RowKit Go.Proofs.Ytpggphjnghhmeaa.Hand Go.Proofs.Ytpggphjnghhmeaa.PFnSorted Go.Proofs.YtpggphjnghhmeaaW.PrintWords Go.Proofs.YtpggphjnghhmeaaW.PrintLast Go.Proofs.YtpggphjnghhmeaaW.PrintMore

theorem PO_at {w : World} {A : Option Addr} {n : Nat} {ys : List S27} (h : Kd.C kPO w A n ys) {i : Nat} (hi : i < n) :
    ∃ ad b A1 c1, A = some ad ∧ w.cell? (ad.add i) = some (.pointer (some ⟨b, 0, none⟩)) ∧ w.cell? ⟨b, 0, none⟩ = some (.int .i64 (ys.getD i default).f0) ∧ w.cell? ⟨b, 1, none⟩ = some (.slice A1 (ys.getD i default).f1.length c1) ∧ (ys.getD i default).f1.length ≤ c1 ∧ Kd.C (Kd.int .u8) w A1 (ys.getD i default).f1.length (ys.getD i default).f1 := by
  obtain ⟨ad, e, hc⟩ := h.2.2 (by omega)
  have hl : i < ys.length := by have := h.1; omega
  obtain ⟨c, hs, hK, hcell⟩ := hc i _ (List.getElem?_eq_getElem hl)
  have hg : ys.getD i default = ys[i] := by rw [List.getD_eq_getElem?_getD, List.getElem?_eq_getElem hl]; rfl
  rw [hg]
  obtain ⟨b, A1, c1, rfl, hb, hle, hC⟩ := hK
  refine ⟨ad, b, A1, c1, e, ?_, by rw [blk_cell hb]; rfl, by rw [blk_cell hb]; rfl, hle, hC⟩
  have := hcell 0 _ rfl
  rwa [show i * kPO.sz + 0 = i by show i * 1 + 0 = i; omega] at this
def IsBool (w : World) (b : Bool) (e : Ending) (w' : World) : Prop := e = .returned (.bool b) ∧ ∃ q, w' = w.drewN q
set_option maxRecDepth 100000 in
set_option maxHeartbeats 8000000 in
theorem lessO_calls (A : Option Addr) (n c : Nat) (ys : List S27) (i j : Nat) (w : World) (hC : Kd.C kPO w A n ys) (hi : i < n) (hj : j < n) (hs : ∀ y ∈ ys, y.f1.length ≤ 1000000) :
    Calls Try.prog 60 #[.slice A n c, .int .i64 i, .int .i64 j] w (IsBool w (lessO (ys.getD i default) (ys.getD j default))) := by
  obtain ⟨ad, b1, A1, c1, e1, k1, k2, k3, hl1, hC1⟩ := PO_at hC hi
  obtain ⟨ad', b2, A2, c2, e2, k4, k5, k6, hl2, hC2⟩ := PO_at hC hj
  have hmem : ∀ k, k < n → (ys.getD k default).f1.length ≤ 1000000 := fun k hk => by
    have hl : k < ys.length := by have := hC.1; omega
    rw [List.getD_eq_getElem?_getD, List.getElem?_eq_getElem hl]
    exact hs _ (List.getElem_mem hl)
  have m1 := hmem i hi
  have m2 := hmem j hj
  rw [e1] at e2
  injection e2 with e2
  subst e2
  subst e1
  generalize ys.getD i default = x at k2 k3 hl1 hC1 m1 ⊢
  generalize ys.getD j default = y at k5 k6 hl2 hC2 m2 ⊢
  have HQ : Aside0 (∀ z m, Calls Try.prog 58 #[.slice A1 x.f1.length c1, .slice A2 y.f1.length c2] (w.drewN (z + m)) fun e w'' => e = .returned (.int .i64 (cmpB x.f1 y.f1)) ∧ ∃ q, w'' = w.drewN (z + q)) := ⟨fun z m => by have h := cmp_quiet A1 _ c1 _ A2 _ c2 _ (w.drewN z) (Kd.C_drewN hC1 z) (Kd.C_drewN hC2 z) m1 m2 m; simpa only [World.drewN_drewN] using h⟩
  have i0 : (0 : Int) ≤ (i : Int) := by omega
  have i1 : (i : Int) < (n : Int) := by omega
  have j0 : (0 : Int) ≤ (j : Int) := by omega
  have j1 : (j : Int) < (n : Int) := by omega
  clear hC1 hC2 m1 m2 hl1 hl2 hmem hs hC
  have HN := Aside0.mk (cmpB_neg x.f1 y.f1)
  by_cases h0 : x.f0 = y.f0
  · have HR : Aside0 (lessO x y = decide (cmpB x.f1 y.f1 < 0)) := ⟨by rw [HN.out]; unfold lessO; rw [if_pos h0]⟩
    rw [HR.out]
    obtain ⟨f, hf⟩ : ∃ f, f = x.f0 := ⟨_, rfl⟩
    rw [← hf] at k2 h0
    rw [← h0] at k5
    clear h0 hf HR HN
    go_enter Try.func60, Try.ntmps60
    go_wp2_with fail
    go_quiet (fail)
    go_wp2_with fail
    go_quiet (with_reducible exact HQ.out _ _)
    go_wp2_with fail
    refine bodyPost_ret (results_tmp rfl _ _ _) rfl ⟨rfl, ?_⟩
    exact two_draws w 0 _ _
  · have HR : Aside0 (lessO x y = decide (x.f0 < y.f0)) := ⟨by unfold lessO; rw [if_neg h0]⟩
    rw [HR.out]
    clear HR HN
    generalize x.f0 = a at k2 h0 ⊢
    generalize y.f0 = b at k5 h0 ⊢
    go_enter Try.func60, Try.ntmps60
    go_wp2_with fail
    go_quiet (fail)
    go_wp2_with fail
    go_quiet (fail)
    go_wp2_with fail
    refine bodyPost_ret (results_tmp rfl _ _ _) rfl ⟨rfl, ?_⟩
    exact two_draws w 0 _ _
end Go.Proofs.Ytpggphjnghhmeaa.Srt
