/-
  spec.SameOuts.
-/
import Derived.Test.YtpggphjnghhmeaaOutsWalk
namespace Go.Proofs.Ytpggphjnghhmeaa.Srt
open Go.RowKit Go.Proofs.Ytpggphjnghhmeaa.Hand Go.Proofs.Ytpggphjnghhmeaa.PFnSorted Go.Proofs.YtpggphjnghhmeaaW.PrintWords Go.Proofs.YtpggphjnghhmeaaW.PrintLast Go.Proofs.YtpggphjnghhmeaaW.PrintMore

theorem nums_eq {x y : List Int} (hx : rng x) (hy : rng y) : ((strOfNums x).toList == (strOfNums y).toList) = decide (x = y) := by
  rw [nums_list, nums_list]
  by_cases e : x = y
  · subst e; simp
  · rw [decide_eq_false e]
    refine beq_eq_false_iff_ne.2 fun h => e ?_
    have hl : x.length = y.length := by have := congrArg List.length h; simpa using this
    apply List.ext_getElem hl
    intro i h1 h2
    have h3 : (x.map fun n => UInt8.ofNat n.toNat)[i]? = (y.map fun n => UInt8.ofNat n.toNat)[i]? := by rw [h]
    rw [List.getElem?_map, List.getElem?_map, List.getElem?_eq_getElem h1, List.getElem?_eq_getElem h2] at h3
    exact (u8_eq (hx _ (List.getElem_mem h1)) (hy _ (List.getElem_mem h2))).1 (Option.some.inj h3)
set_option maxRecDepth 100000 in
set_option maxHeartbeats 8000000 in
theorem sameOuts_calls (A1 : Option Addr) (n1 c1 : Nat) (xs : List S27) (A2 : Option Addr) (n2 c2 : Nat) (ys : List S27) (w : World) (h1 : Kd.C k27 w A1 n1 xs) (h2 : Kd.C k27 w A2 n2 ys) (hb1 : bytesO xs) (hb2 : bytesO ys) (b : Bool) (hb : b = true ↔ xs = ys) :
    Calls Try.prog 9 #[.slice A1 n1 c1, .slice A2 n2 c2] w fun e w' => e = .returned (.bool b) ∧ Below w.heap.size w w' := by
  have hl1 : xs.length = n1 := h1.1
  have hl2 : ys.length = n2 := h2.1
  have hmax : n1 ≤ 9223372036854775807 := h1.2.1
  have H1 := Aside0.mk h1
  have H2 := Aside0.mk h2
  have HL1 := Aside0.mk hl1
  have HL2 := Aside0.mk hl2
  have HB1 := Aside0.mk hb1
  have HB2 := Aside0.mk hb2
  have HBB := Aside0.mk hb
  clear h1 h2 hl1 hl2 hb1 hb2 hb
  by_cases hn : n1 = n2
  · subst hn
    have HB0 := Aside0.mk (Below.refl w.heap.size w)
    go_enter Try.func9, Try.ntmps9
    go_wp2_with fail
    go_loopw [13] (fun v13 wr => ∃ k : Nat, v13 = .int .i64 k ∧ k ≤ n1 ∧ Aside0 (∀ i, i < k → xs.getD i default = ys.getD i default) ∧ Aside0 (Below w.heap.size w wr)) (fun v13 _ => n1 - (intOf v13).toNat)
    case atStart => exact ⟨0, rfl, Nat.zero_le _, ⟨fun i hi => absurd hi (Nat.not_lt_zero _)⟩, HB0⟩
    case round =>
      obtain ⟨k, rfl, hk, HE, HB⟩ := hrel
      clear HB0
      by_cases hlt : k < n1
      · obtain ⟨ad1, A3, c3, e1, q0, q1, hl3, hC3⟩ := at_T27 (Kd.C_below H1.out HB.out) (k : Int) (by omega) (by omega)
        obtain ⟨ad2, A4, c4, e2, p0, p1, hl4, hC4⟩ := at_T27 (Kd.C_below H2.out HB.out) (k : Int) (by omega) (by omega)
        subst e1; subst e2
        rw [Int.toNat_natCast] at q0 q1 p0 p1
        have hxk : rd_T27 xs (k : Int) = xs.getD k default := rfl
        have hyk : rd_T27 ys (k : Int) = ys.getD k default := rfl
        rw [hxk] at q0 q1 hl3 hC3
        rw [hyk] at p0 p1 hl4 hC4
        have hbx : rng (xs.getD k default).f1 := HB1.out _ (by have := HL1.out; rw [List.getD_eq_getElem?_getD, List.getElem?_eq_getElem (by omega)]; exact List.getElem_mem _)
        have hby : rng (ys.getD k default).f1 := HB2.out _ (by have := HL2.out; rw [List.getD_eq_getElem?_getD, List.getElem?_eq_getElem (by omega)]; exact List.getElem_mem _)
        have HEQ : Aside0 (xs.getD k default = ys.getD k default → ∀ i, i < k + 1 → xs.getD i default = ys.getD i default) := ⟨fun h i hi => by
          by_cases e : i = k
          · subst e; exact h
          · exact HE.out i (by omega)⟩
        have HNE : Aside0 (xs.getD k default ≠ ys.getD k default → b = false) := ⟨fun h => Bool.eq_false_iff.2 (fun e => h (by rw [HBB.out.1 e]))⟩
        clear hxk hyk
        generalize xs.getD k default = x at q0 q1 hl3 hC3 hbx HEQ HNE
        generalize ys.getD k default = y at p0 p1 hl4 hC4 hby HEQ HNE
        obtain ⟨s1, hs1⟩ : ∃ s1, s1 = strOfNums x.f1 := ⟨_, rfl⟩
        obtain ⟨s2, hs2⟩ : ∃ s2, s2 = strOfNums y.f1 := ⟨_, rfl⟩
        obtain ⟨bb, hbb⟩ : ∃ bb, bb = decide (x.f1 = y.f1) := ⟨_, rfl⟩
        have hse : (s1.toList == s2.toList) = bb := by rw [hs1, hs2, hbb]; exact nums_eq hbx hby
        have hcv1 : ∀ m, (convert 25 9 (.slice A3 x.f1.length c3)).run Try.prog (wr.drewN m) = .ok (.string s1) (wr.drewN m) := fun m => by rw [hs1]; exact Kd.C_string (P := Try.prog) (A := A3) (c := c3) Try.underlying25 Try.underlying5 Try.underlying9 (Kd.C_drewN hC3 m)
        have hcv2 : ∀ m, (convert 25 9 (.slice A4 y.f1.length c4)).run Try.prog (wr.drewN m) = .ok (.string s2) (wr.drewN m) := fun m => by rw [hs2]; exact Kd.C_string (P := Try.prog) (A := A4) (c := c4) Try.underlying25 Try.underlying5 Try.underlying9 (Kd.C_drewN hC4 m)
        have i0 : (0 : Int) ≤ (k : Int) := by omega
        have i1 : (k : Int) < (n1 : Int) := by omega
        have HBV := Aside0.mk hbb
        clear hC3 hC4 hl3 hl4 hbx hby hs1 hs2 hbb
        obtain ⟨fx, hfx⟩ : ∃ fx, fx = x.f0 := ⟨_, rfl⟩
        obtain ⟨fy, hfy⟩ : ∃ fy, fy = y.f0 := ⟨_, rfl⟩
        rw [← hfx] at q0
        rw [← hfy] at p0
        have HFX := Aside0.mk hfx
        have HFY := Aside0.mk hfy
        clear hfx hfy
        by_cases hf : fx = fy
        · subst hf
          cases bb
          · have HF : Aside0 (b = false) := ⟨HNE.out (fun e => of_decide_eq_false HBV.out.symm (by rw [e]))⟩
            go_wp2_with fail
            go_quiet (fail)
            go_wp2_with fail
            exact bodyPost_ret (results_tmp rfl _ _ _) rfl ⟨by rw [HF.out]; rfl, by apply pw_below_drewN; exact HB.out⟩
          · have HT : Aside0 (∀ i, i < k + 1 → xs.getD i default = ys.getD i default) := ⟨HEQ.out (by
              have h1 := of_decide_eq_true HBV.out.symm
              have h2 := HFX.out.symm.trans HFY.out
              cases x; cases y
              simp only at h1 h2
              rw [h1, h2])⟩
            go_wp2_with fail
            go_quiet (fail)
            go_wp2_with fail
            go_roundw
            case rel => exact ⟨k + 1, rfl, hlt, HT, ⟨by apply pw_below_drewN; exact HB.out⟩⟩
            case measure => simp only [intOf]; omega
        · have HF : Aside0 (b = false) := ⟨HNE.out (fun e => hf (by rw [HFX.out, HFY.out, e]))⟩
          go_wp2_with fail
          go_quiet (fail)
          go_wp2_with fail
          exact bodyPost_ret (results_tmp rfl _ _ _) rfl ⟨by rw [HF.out]; rfl, by apply pw_below_drewN; exact HB.out⟩
      · obtain rfl : k = n1 := by omega
        have HT : Aside0 (b = true) := ⟨HBB.out.2 (by
          apply List.ext_getElem (by rw [HL1.out, HL2.out])
          intro i h1 h2
          have := HE.out i (by rw [← HL1.out]; exact h1)
          rw [List.getD_eq_getElem?_getD, List.getD_eq_getElem?_getD, List.getElem?_eq_getElem h1, List.getElem?_eq_getElem h2] at this
          exact this)⟩
        go_wp2_with fail
        exact bodyPost_ret (results_tmp rfl _ _ _) rfl ⟨by rw [HT.out]; rfl, HB.out⟩
  · have HF : Aside0 (b = false) := ⟨Bool.eq_false_iff.2 (fun e => hn (by rw [← HL1.out, ← HL2.out, HBB.out.1 e]))⟩
    have hni : ¬ (n1 : Int) = (n2 : Int) := by omega
    go_enter Try.func9, Try.ntmps9
    go_wp2_with fail
    exact bodyPost_ret (results_tmp rfl _ _ _) rfl ⟨by rw [HF.out]; rfl, Below.refl _ _⟩
end Go.Proofs.Ytpggphjnghhmeaa.Srt
