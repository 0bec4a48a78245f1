/-
  spec.Added: a filter's bytes with an item's bits.
-/
import Derived.Test.YthmfbkmdhnfbnaaBitsWalk
import Derived.BigRegion
namespace Go.Proofs.Ythmfbkmdhnfbnaa.BloomW
open Go.RowKit Go.Proofs.Ythmfbkmdhnfbnaa.Hand Go.Proofs.YthmfbkmdhnfbnaaW.PrintWords Go.Proofs.YthmfbkmdhnfbnaaW.PrintLast Go.Proofs.YthmfbkmdhnfbnaaW.PrintMore Mur Blo

theorem info5 : (Try.prog.info? 5).map (fun i => (i.zero, i.size, i.bytes)) = some (some (.int .u8 0), 1, 1) := by kernel_rfl
theorem own_form {w : World} {B e n c : Nat} {A : Option Addr} {xs : List Value} (h : w.ownsRow B e 1 (.slice A n c) n xs) (hn : 0 < n) : ∃ g, A = some ⟨g, 0, none⟩ := by
  rcases h.2 with ⟨h1, h2⟩ | ⟨g, cap, cur, h1, _⟩
  · have := h.1
    rw [h2] at this
    simp at this
    omega
  · injection h1 with a b
    exact ⟨g, a⟩

set_option maxHeartbeats 4000000 in
theorem added_calls (A : Option Addr) (c : Nat) (D : List Int) (fu : Nat) (tw fl : Int) (Ai : Option Addr) (ci : Nat) (l : List Int) (w : World) (hD : Kd.C (Kd.int .u8) w A D.length D) (hC : Kd.C (Kd.int .u8) w Ai l.length l) (hc : l.length ≤ ci) (hl : l.length ≤ 100) (hr : ∀ x ∈ l, 0 ≤ x ∧ x < 256)
    (hn0 : 0 < D.length) (hn : D.length ≤ 2000) (hf : fu ≤ 50) :
    Calls Try.prog 13 #[.agg #[.slice A D.length c, .int .u32 fu, .int .u32 tw, .int .i64 fl], .slice Ai l.length ci] w fun e w' => ∃ v, e = .returned v ∧ Kd.R (Kd.int .u8) 5 w' w.heap.size (fun _ => True) v (added D (bitsL fu tw D.length l)) ∧ Below w.heap.size w w' := by
  have HC := Aside0.mk hC
  have HR := Aside0.mk hr
  have HD := Aside0.mk hD
  clear hC hr hD
  obtain ⟨n, hnn⟩ : ∃ n, n = D.length := ⟨_, rfl⟩
  have HDL := Aside0.mk hnn
  rw [← hnn] at hn0 hn HD ⊢
  clear hnn
  obtain ⟨js, hjs⟩ : ∃ js, js = bitsL fu tw n l := ⟨_, rfl⟩
  rw [← hjs]
  have HJS := Aside0.mk hjs
  clear hjs
  go_enter Try.func13, Try.ntmps13
  have HB0 := Aside0.mk (below_alloc (Below.refl w.heap.size w) (boxO A n c fu tw fl))
  have HG : Aside0 ((w.alloc (boxO A n c fu tw fl)).heap[w.heap.size]? = some (boxO A n c fu tw fl)) := ⟨box_new _ _⟩
  have HO0 : Aside0 ((Kd.int .u8).R 5 ((w.alloc (boxO A n c fu tw fl)).alloc (.cells #[] 5)) w.heap.size (fun _ => True) (.slice (some ⟨w.heap.size + 1, 0, none⟩) 0 0) []) := ⟨by
    have h := own_lit (w.alloc (boxO A n c fu tw fl)) w.heap.size 5 .u8 [] (by simp) (by simp)
    have e : (w.alloc (boxO A n c fu tw fl)).heap.size = w.heap.size + 1 := by simp
    rw [e] at h
    exact Kd.R_of_own (enc := Value.int .u8) (h1 := fun _ => rfl) (xs := []) h (fun _ _ => trivial)⟩
  have HD0 : Aside0 (Kd.C (Kd.int .u8) ((w.alloc (boxO A n c fu tw fl)).alloc (.cells #[] 5)) A n D) := ⟨Kd.C_below HD.out (below_alloc HB0.out _)⟩
  go_wp2_with (first
    | ((with_reducible refine gate_builtin (b := .append) (xs := #[.tmp 8, .tmp 10]) rfl ?_); refine Kd.R_append_row (h1 := fun _ => rfl) (w0 := w) (Value.int .u8) (0 : Int) w.heap.size rfl _ _ 23 5 (.int .u8 0) 1 rfl Try.underlying23 info5 rfl (by decide) (.slice (some ⟨w.heap.size + 1, 0, none⟩) 0 0) [] D A n c (fun _ => True) rfl rfl (fun _ _ => trivial) HO0.out HD0.out (below_alloc HB0.out _) (below_alloc HB0.out _).size (by simp; omega) ?_; intro v1 w1 hR hB1 hG1 _; rw [List.nil_append] at hR; have HR1 := Aside0.mk hR; have HB1 := Aside0.mk hB1; have HG1 := Aside0.mk (blk_grown (v := .slice (some ⟨w.heap.size + 1, 0, none⟩) 0 0) (blk_below HG.out (below_alloc (Below.refl _ _) _)) (by simp [Value.ownBlock]) hG1); obtain ⟨k0, k1, k2, k3⟩ := box_cells HG1.out; clear hR hB1 hG1)
    | (go_at_call 27; refine (bits_calls A n c fu tw fl Ai ci l w1 (Kd.C_below HC.out HB1.out) hc hl HR.out hn0 hn hf).mono ?_; rintro e w2 ⟨v2, rfl, hR2, hb2⟩; have HR2 := Aside0.mk hR2; have HB2 := Aside0.mk hb2; clear hR2 hb2; obtain ⟨A2, c2, e2⟩ := Kd.R_slice HR2.out; rw [bitsL_length] at e2; subst e2)
    | fail)
  obtain ⟨A1, c1, e1⟩ := Kd.R_slice HR1.out
  rw [← HDL.out] at e1
  have hown1 := Kd.own_of_R HR1.out
  rw [e1, ← HDL.out] at hown1
  obtain ⟨go, rfl⟩ := own_form hown1 hn0
  subst e1
  have HS0 : Aside0 ((Kd.int .u8).R 5 w2 w.heap.size (fun _ => True) (.slice (some ⟨go, 0, none⟩) n c1) D) := ⟨Kd.R_below HR1.out HB2.out⟩
  have HJ0 : Aside0 ((Kd.int .i64).R 3 w2 w.heap.size (fun _ => True) (.slice A2 fu c2) (bitsL fu tw n l)) := ⟨Kd.R_lower HR2.out HB1.out.size⟩
  have HB3 := Aside0.mk (below_then HB1.out HB1.out.size HB2.out)
  have HJR : Aside0 (∀ j ∈ bitsL fu tw n l, 0 ≤ j ∧ j < 8 * n) := ⟨bitsL_range hn0⟩
  have HJL := Aside0.mk (bitsL_length fu tw n l)
  rw [← HJS.out] at HJ0 HJR HJL
  clear hown1 k0 k1 k2 k3 HR1 HR2 HB1 HB2 HG1 HG HB0 HO0 HD0
  go_loopw [16] (fun v16 wr => ∃ (k : Nat) (cur : List Int), v16 = .int .i64 k ∧ k ≤ fu ∧ Aside0 (cur = added D (js.take k)) ∧ Aside0 ((Kd.int .u8).R 5 wr w.heap.size (fun _ => True) (.slice (some ⟨go, 0, none⟩) n c1) cur) ∧ Aside0 ((Kd.int .i64).R 3 wr w.heap.size (fun _ => True) (.slice A2 fu c2) js) ∧ Aside0 (Below w.heap.size w wr)) (fun v16 _ => fu - (intOf v16).toNat)
  case atStart => exact ⟨0, D, rfl, Nat.zero_le _, ⟨rfl⟩, HS0, HJ0, HB3⟩
  case round =>
    obtain ⟨k, cur, rfl, hk, HCu, HS, HJ, HB⟩ := hrel
    clear HS0 HJ0 HB3
    by_cases hlt : k < fu
    · obtain ⟨ad, rfl, hcell⟩ := C_cells (Kd.R_reads' HJ.out).2.2 (by rw [HJL.out]; omega)
      obtain ⟨j, hj⟩ : ∃ j, js.getD k 0 = j := ⟨_, rfl⟩
      have kj := hcell k (.int .i64 j) (by rw [List.getElem?_map, List.getElem?_eq_getElem (by rw [HJL.out]; omega), ← hj, List.getD_eq_getElem?_getD, List.getElem?_eq_getElem (by rw [HJL.out]; omega)]; rfl)
      obtain ⟨j0, j1⟩ := HJR.out j (by rw [← hj, List.getD_eq_getElem?_getD, List.getElem?_eq_getElem (by rw [HJL.out]; omega)]; simp)
      have hcl : cur.length = n := by rw [HCu.out, added_length, ← HDL.out]
      have hown := Kd.own_of_R HS.out
      rw [hcl] at hown
      obtain ⟨f1, f2⟩ := own_at hown (j / 8) (by omega) (by omega)
      have HST := Aside0.mk (own_store hown (j / 8) (Go.bits .or .u8 (rd cur (j / 8)) (2 ^ (j % 8).toNat % 256))).1
      have HX : Aside0 (cur.set (j / 8).toNat (Go.bits .or .u8 (rd cur (j / 8)) (2 ^ (j % 8).toNat % 256)) = added D (js.take (k + 1))) := ⟨by
        rw [List.take_succ_eq_append_getElem (by rw [HJL.out]; omega), added_snoc, ← HCu.out]
        have e : js[k]'(by rw [HJL.out]; omega) = j := by rw [← hj, List.getD_eq_getElem?_getD, List.getElem?_eq_getElem (by rw [HJL.out]; omega)]; simp
        rw [e]
        rfl⟩
      obtain ⟨x, hx⟩ : ∃ x, rd cur (j / 8) = x := ⟨_, rfl⟩
      rw [hx] at f1 HST HX
      have HJK := Aside0.mk (Kd.R_ne HJ.out (own_typed hown go rfl).choose_spec (by decide))
      have HGB : Aside0 (w.heap.size ≤ go) := ⟨((Kd.R_bound HS.out).1 go rfl).2.1⟩
      have HCL := Aside0.mk hcl
      clear hcell hj hown hx hcl
      go_wp2
      go_region
      all_goals
        go_wp2
        go_roundw
        case rel => exact ⟨k + 1, _, by go_num, by omega, HX, ⟨by
          have h := HST.out
          have e : (cur.set (j / 8).toNat (Go.bits .or .u8 x (2 ^ (j % 8).toNat % 256))).length = n := by simp [HCL.out]
          apply Kd.R_drew
          exact Kd.R_of_own (enc := Value.int .u8) (h1 := fun _ => rfl) (by rw [e]; exact h) (fun _ _ => trivial)⟩, ⟨by
          apply Kd.R_drew
          exact Kd.R_mono (Kd.R_far (p := ⟨go, (j / 8).toNat, none⟩) (Kd.R_tight2 rfl HJ.out) (fun k hk e => HJK.out (by have e' : k = go := e; rw [← e']; exact hk.1)) _) (fun _ _ => trivial)⟩, ⟨below_drew (HB.out.setCell HGB.out _)⟩⟩
        case measure => simp [intOf]; omega
    · obtain rfl : k = fu := by omega
      go_wp2
      go_ret
      refine ⟨_, rfl, ?_, HB.out⟩
      have h := HCu.out
      rw [List.take_of_length_le (by rw [HJL.out]; omega)] at h
      rw [← h]
      exact HS.out
end Go.Proofs.Ythmfbkmdhnfbnaa.BloomW
