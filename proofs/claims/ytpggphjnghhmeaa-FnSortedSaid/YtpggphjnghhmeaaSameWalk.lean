/-
  spec.SameIns.
-/
import Derived.Test.YtpggphjnghhmeaaLessIn
namespace Go.Proofs.Ytpggphjnghhmeaa.Srt
open Go.RowKit Go.Proofs.Ytpggphjnghhmeaa.Hand Go.Proofs.Ytpggphjnghhmeaa.PFnSorted Go.Proofs.YtpggphjnghhmeaaW.PrintWords Go.Proofs.YtpggphjnghhmeaaW.PrintLast Go.Proofs.YtpggphjnghhmeaaW.PrintMore

theorem part37 (x : In40) (hl : x.h.length = 32) (W : World) : (part 37 (cell40 x).toArray 0).run Try.prog W = .ok (.agg (by8 x.h).toArray) W := by
  have hi := info37
  cases hq : Try.prog.info? 37 with
  | none => simp [hq] at hi
  | some i =>
    have hs : i.size = 32 := by simpa [hq] using hi
    have hx : (cell40 x).take 32 = by8 x.h := by
      have h8 : (by8 x.h).length = 32 := by unfold by8; simp [hl]
      show ((by8 x.h) ++ [Value.int .u32 x.i]).take 32 = _
      rw [List.take_append_of_le_length (by omega), List.take_of_length_le (by omega)]
    simp [part, isAgg, run_underlying Try.underlying37, sizeOf, typeInfo, hq, hs, hx]
theorem part38 (x : In40) (hl : x.h.length = 32) (W : World) : (part 38 (cell40 x).toArray 32).run Try.prog W = .ok (.int .u32 x.i) W := by
  have hx : (cell40 x)[32]? = some (.int .u32 x.i) := by
    unfold cell40
    rw [List.getElem?_append_right (by simp [hl])]
    simp [hl]
  simp [part, isAgg, run_underlying Try.underlying38, hx]
theorem eq40 (x y : In40) (hx : x.h.length = 32) (hy : y.h.length = 32) (d : Nat) (W : World) : (Op.equalIn (d + 3) 40 (.agg (cell40 x).toArray) (.agg (cell40 y).toArray)).run Try.prog W = .ok (decide (x = y)) W := by
  have e : (decide (x.h = y.h) && (x.i == y.i)) = decide (x = y) := by
    cases x; cases y
    simp only [In40.mk.injEq]
    rw [Bool.eq_iff_iff]
    simp
  refine eqA_of Try.underlying40 (by kernel_rfl) ?_
  rw [← e]
  exact eqf_cons rfl (part37 x hx W) (part37 y hy W) (eq37 x.h y.h hx hy d W) (eqf_last rfl (part38 x hx W) (part38 y hy W) (run_equalIn_int (P := Try.prog) W (d + 1) 38 .u32 .u32 x.i y.i Try.underlying38))
theorem loadAt_any (w : World) (ad : Addr) (ty : TypeId) (cs : List Value) (d : TypeDesc) (hc : ∀ j v, cs[j]? = some v → w.cell? (ad.add j) = some v)
    (hu : Try.prog.underlying ty = some d) (hd : d.isRow = true) (hi : (Try.prog.info? ty).map (·.size) = some cs.length) : (Instr.loadAt ty (.pointer (some ad))).run Try.prog w = .ok (.agg cs.toArray) w := by
  simp only [Instr.loadAt, Instr.sureAddr, Sem.run_bind, Sem.run_pure, Result.andThen_ok, loadVar_any w ad ty cs d hc hu hd hi]
set_option maxRecDepth 100000 in
set_option maxHeartbeats 8000000 in
theorem sameIns_calls (A1 : Option Addr) (n1 c1 : Nat) (xs : List In40) (A2 : Option Addr) (n2 c2 : Nat) (ys : List In40) (w : World) (h1 : Kd.C kIn w A1 n1 xs) (h2 : Kd.C kIn w A2 n2 ys) :
    Calls Try.prog 8 #[.slice A1 n1 c1, .slice A2 n2 c2] w fun e w' => e = .returned (.bool (decide (xs = ys))) ∧ Below w.heap.size w w' := by
  have hl1 : xs.length = n1 := h1.1
  have hl2 : ys.length = n2 := h2.1
  have hmax : n1 ≤ 9223372036854775807 := h1.2.1
  have H1 := Aside0.mk h1
  have H2 := Aside0.mk h2
  have HL1 := Aside0.mk hl1
  have HL2 := Aside0.mk hl2
  clear h1 h2 hl1 hl2
  by_cases hn : n1 = n2
  · subst hn
    have HB0 := Aside0.mk (Below.refl w.heap.size w)
    go_enter Try.func8, Try.ntmps8
    go_wp2_with fail
    go_loopw [13] (fun v13 wr => ∃ k : Nat, v13 = .int .i64 k ∧ k ≤ n1 ∧ Aside0 (∀ i, i < k → xs.getD i default = ys.getD i default) ∧ Aside0 (Below w.heap.size w wr)) (fun v13 _ => n1 - (intOf v13).toNat)
    case atStart => exact ⟨0, rfl, Nat.zero_le _, ⟨fun i hi => absurd hi (Nat.not_lt_zero _)⟩, HB0⟩
    case round =>
      obtain ⟨k, rfl, hk, HE, HB⟩ := hrel
      clear HB0
      by_cases hlt : k < n1
      · obtain ⟨ad1, e1, hx1, hc1⟩ := In_at (Kd.C_below H1.out HB.out) hlt
        obtain ⟨ad2, e2, hx2, hc2⟩ := In_at (Kd.C_below H2.out HB.out) hlt
        subst e1; subst e2
        have HEQ : Aside0 (xs.getD k default = ys.getD k default → ∀ i, i < k + 1 → xs.getD i default = ys.getD i default) := ⟨fun h i hi => by
          by_cases e : i = k
          · subst e; exact h
          · exact HE.out i (by omega)⟩
        have HNE : Aside0 (xs.getD k default ≠ ys.getD k default → decide (xs = ys) = false) := ⟨fun h => decide_eq_false (fun e => h (by rw [e]))⟩
        generalize xs.getD k default = x at hx1 hc1 HEQ HNE
        generalize ys.getD k default = y at hx2 hc2 HEQ HNE
        obtain ⟨X, hX⟩ : ∃ X, X = (cell40 x).toArray := ⟨_, rfl⟩
        obtain ⟨Y, hY⟩ : ∃ Y, Y = (cell40 y).toArray := ⟨_, rfl⟩
        obtain ⟨b, hb⟩ : ∃ b, b = decide (x = y) := ⟨_, rfl⟩
        have heq : ∀ W, (Op.equalIn 10000 40 (.agg X) (.agg Y)).run Try.prog W = .ok b W := fun W => by rw [hX, hY, hb]; exact eq40 x y hx1 hx2 9997 W
        have hl1 : (Instr.loadAt 40 (.pointer (some (ad1.add (k * 33))))).run Try.prog wr.drew = .ok (.agg X) wr.drew := by rw [hX]; exact loadAt_any wr.drew _ 40 _ _ (fun j v hj => hc1 j v hj) Try.underlying40 rfl (by rw [info40, cell40_length hx1])
        have hl2 : (Instr.loadAt 40 (.pointer (some (ad2.add (k * 33))))).run Try.prog wr.drew = .ok (.agg Y) wr.drew := by rw [hY]; exact loadAt_any wr.drew _ 40 _ _ (fun j v hj => hc2 j v hj) Try.underlying40 rfl (by rw [info40, cell40_length hx2])
        simp [go_sem] at hl1 hl2
        have HBV := Aside0.mk hb
        have i0 : (0 : Int) ≤ (k : Int) := by omega
        have i1 : (k : Int) < (n1 : Int) := by omega
        clear hX hY hb hc1 hc2 hx1 hx2
        cases b
        · have HF : Aside0 (decide (xs = ys) = false) := ⟨HNE.out (of_decide_eq_false HBV.out.symm)⟩
          go_wp2_with fail
          go_region_law (fail)
          all_goals
            go_wp2_with fail
            exact bodyPost_ret (results_tmp rfl _ _ _) rfl ⟨by rw [HF.out]; rfl, below_drew HB.out⟩
        · have HT : Aside0 (∀ i, i < k + 1 → xs.getD i default = ys.getD i default) := ⟨HEQ.out (of_decide_eq_true HBV.out.symm)⟩
          go_wp2_with fail
          go_region_law (fail)
          all_goals
            go_wp2_with fail
            go_roundw
            case rel => exact ⟨k + 1, rfl, hlt, HT, ⟨below_drew HB.out⟩⟩
            case measure => simp only [intOf]; omega
      · obtain rfl : k = n1 := by omega
        have HT : Aside0 (decide (xs = ys) = true) := ⟨decide_eq_true (by
          apply List.ext_getElem (by rw [HL1.out, HL2.out])
          intro i h1 h2
          have := HE.out i (by rw [← HL1.out]; exact h1)
          rw [List.getD_eq_getElem?_getD, List.getD_eq_getElem?_getD, List.getElem?_eq_getElem h1, List.getElem?_eq_getElem h2] at this
          exact this)⟩
        go_wp2_with fail
        exact bodyPost_ret (results_tmp rfl _ _ _) rfl ⟨by rw [HT.out]; rfl, HB.out⟩
  · have HF : Aside0 (decide (xs = ys) = false) := ⟨decide_eq_false (fun e => hn (by rw [← HL1.out, ← HL2.out, e]))⟩
    have hni : ¬ (n1 : Int) = (n2 : Int) := by omega
    go_enter Try.func8, Try.ntmps8
    go_wp2_with fail
    exact bodyPost_ret (results_tmp rfl _ _ _) rfl ⟨by rw [HF.out]; rfl, Below.refl _ _⟩
end Go.Proofs.Ytpggphjnghhmeaa.Srt
