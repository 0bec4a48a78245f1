/-
  spec.Might: whether a filter has all bits of an item.
-/
import Derived.Test.YthmfbkmdhnfbnaaAddedWalk
namespace Go.Proofs.Ythmfbkmdhnfbnaa.BloomW
open Go.RowKit Go.Proofs.Ythmfbkmdhnfbnaa.Hand Go.Proofs.YthmfbkmdhnfbnaaW.PrintWords Go.Proofs.YthmfbkmdhnfbnaaW.PrintLast Go.Proofs.YthmfbkmdhnfbnaaW.PrintMore Mur Blo

theorem all_take {js : List Int} {f : Int → Bool} {k : Nat} (hk : k < js.length) (h : (js.take k).all f = true) : (js.take (k + 1)).all f = f (js.getD k 0) := by
  rw [List.take_succ_eq_append_getElem hk, List.all_append, h, List.getD_eq_getElem?_getD, List.getElem?_eq_getElem hk]
  simp
theorem all_stop {js : List Int} {f : Int → Bool} {k : Nat} (hk : k < js.length) (h : f (js.getD k 0) = false) : js.all f = false := by
  rw [List.getD_eq_getElem?_getD, List.getElem?_eq_getElem hk] at h
  rw [List.all_eq_false]
  exact ⟨js[k], List.getElem_mem hk, by simpa using h⟩

set_option maxHeartbeats 4000000 in
theorem might_calls (A : Option Addr) (c : Nat) (D : List Int) (fu : Nat) (tw fl : Int) (Ai : Option Addr) (ci : Nat) (l : List Int) (w : World) (hD : Kd.C (Kd.int .u8) w A D.length D) (hC : Kd.C (Kd.int .u8) w Ai l.length l) (hc : l.length ≤ ci) (hl : l.length ≤ 100) (hr : ∀ x ∈ l, 0 ≤ x ∧ x < 256)
    (hn0 : 0 < D.length) (hn : D.length ≤ 2000) (hf : fu ≤ 50) :
    Calls Try.prog 17 #[.agg #[.slice A D.length c, .int .u32 fu, .int .u32 tw, .int .i64 fl], .slice Ai l.length ci] w fun e w' => e = .returned (.bool (might D (bitsL fu tw D.length l))) ∧ Below w.heap.size w w' := by
  have HC := Aside0.mk hC
  have HR := Aside0.mk hr
  have HD := Aside0.mk hD
  clear hC hr hD
  obtain ⟨n, hnn⟩ : ∃ n, n = D.length := ⟨_, rfl⟩
  have HDL := Aside0.mk hnn
  rw [← hnn] at hn0 hn HD ⊢
  clear hnn
  obtain ⟨js, hjs⟩ : ∃ js, js = bitsL fu tw n l := ⟨_, rfl⟩
  obtain ⟨B, hB⟩ : ∃ B, B = might D js := ⟨_, rfl⟩
  rw [← hjs, ← hB]
  have HJS := Aside0.mk hjs
  have HBB := Aside0.mk hB
  clear hjs hB
  obtain ⟨ad0, rfl, _⟩ := C_cells HD.out hn0
  go_enter Try.func17, Try.ntmps17
  have HB0 := Aside0.mk (below_alloc (Below.refl w.heap.size w) (boxO (some ad0) n c fu tw fl))
  have HG : Aside0 ((w.alloc (boxO (some ad0) n c fu tw fl)).heap[w.heap.size]? = some (boxO (some ad0) n c fu tw fl)) := ⟨box_new _ _⟩
  go_wp2_with (first
    | (go_at_call 27; refine (bits_calls (some ad0) n c fu tw fl Ai ci l _ (Kd.C_below HC.out HB0.out) hc hl HR.out hn0 hn hf).mono ?_; rintro e w2 ⟨v2, rfl, hR2, hb2⟩; have HR2 := Aside0.mk hR2; have HB2 := Aside0.mk hb2; clear hR2 hb2; obtain ⟨A2, c2, e2⟩ := Kd.R_slice HR2.out; rw [bitsL_length] at e2; subst e2)
    | fail)
  have HJ0 : Aside0 (Kd.C (Kd.int .i64) w2 A2 fu (bitsL fu tw n l)) := ⟨by have h := (Kd.R_reads' HR2.out).2.2; rw [bitsL_length] at h; exact h⟩
  have HB3 := Aside0.mk (below_step HB0.out HB2.out)
  have HJR : Aside0 (∀ j ∈ bitsL fu tw n l, 0 ≤ j ∧ j < 8 * n) := ⟨bitsL_range hn0⟩
  have HJL := Aside0.mk (bitsL_length fu tw n l)
  rw [← HJS.out] at HJ0 HJR HJL
  have HG2 := Aside0.mk (blk_below HG.out HB2.out)
  have HD2 := Aside0.mk (Kd.C_below HD.out HB3.out)
  obtain ⟨k0, _, _, _⟩ := box_cells HG2.out
  clear HR2 HB2 HG HB0 HG2
  go_loop [11] (fun v11 => ∃ k : Nat, v11 = .int .i64 k ∧ k ≤ fu ∧ Aside0 ((js.take k).all (hasBit D) = true)) (fun v11 => fu - (intOf v11).toNat)
  case atStart => exact ⟨0, rfl, Nat.zero_le _, ⟨by simp⟩⟩
  case round =>
    obtain ⟨k, rfl, hk, HA⟩ := hrel
    by_cases hlt : k < fu
    · obtain ⟨ad, rfl, hcell⟩ := C_cells HJ0.out (by omega)
      have hkl : k < js.length := by rw [HJL.out]; omega
      obtain ⟨j, hj⟩ : ∃ j, js.getD k 0 = j := ⟨_, rfl⟩
      have kj := hcell k (.int .i64 j) (by rw [List.getElem?_map, List.getElem?_eq_getElem hkl, ← hj, List.getD_eq_getElem?_getD, List.getElem?_eq_getElem hkl]; rfl)
      obtain ⟨j0, j1⟩ := HJR.out j (by rw [← hj, List.getD_eq_getElem?_getD, List.getElem?_eq_getElem hkl]; simp)
      obtain ⟨x, hx⟩ : ∃ x, rd D (j / 8) = x := ⟨_, rfl⟩
      have kd := Kd.foot_int HD2.out (j / 8) (by omega) (by omega)
      rw [hx] at kd
      have hd8 : j / 8 < (n : Int) := by omega
      have hd0 : 0 ≤ j / 8 := by omega
      by_cases hb : Go.bits .and .u8 (x / 2 ^ (j % 8).toNat) 1 = 0
      · have HF : Aside0 (B = false) := ⟨by
          rw [HBB.out]
          refine all_stop hkl ?_
          rw [hj]
          unfold hasBit
          rw [show rdI D (j / 8) = x from hx, hb]; rfl⟩
        clear hcell hj hx hkl
        go_wp2
        all_goals
          go_ret
          exact ⟨by rw [HF.out]; rfl, HB3.out⟩
      · have HA2 : Aside0 ((js.take (k + 1)).all (hasBit D) = true) := ⟨by
          rw [all_take hkl HA.out, hj]
          unfold hasBit
          rw [show rdI D (j / 8) = x from hx]
          simpa using hb⟩
        have hb2 : (Go.bits .and .u8 (x / 2 ^ (j % 8).toNat) 1 == 0) = false := beq_eq_false_iff_ne.2 hb
        clear hcell hj hx hkl hb
        go_wp2
        go_round
        case rel => exact ⟨k + 1, by go_num, by omega, HA2⟩
        case measure => simp [intOf]; omega
    · obtain rfl : k = fu := by omega
      have HF : Aside0 (B = true) := ⟨by
        rw [HBB.out]
        have h := HA.out
        rwa [List.take_of_length_le (by rw [HJL.out]; omega)] at h⟩
      go_wp2
      go_ret
      exact ⟨by rw [HF.out]; rfl, HB3.out⟩
end Go.Proofs.Ythmfbkmdhnfbnaa.BloomW
