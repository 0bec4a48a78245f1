/-
  The walk of bech32.ConvertBits, where it hands back no error; and of impl.clone.
-/
import Derived.Test.YthkijnfpllbdnaaPFnGroupsx1
import Derived.Test.YthkijnfpllbdnaaGroupsPure
import Derived.Test.YthkijnfpllbdnaaHand
import Derived.Lib.Hide
namespace Go.Proofs.Ythkijnfpllbdnaa.PFnGroups
open Go.RowKit Go.Proofs.Ythkijnfpllbdnaa.Hand Go.Proofs.YthkijnfpllbdnaaW.PrintWords Go.Proofs.YthkijnfpllbdnaaW.PrintLast Go.Proofs.YthkijnfpllbdnaaW.PrintMore Grp

theorem info5' : (Try.prog.info? 5).map (fun i => (i.zero, i.size, i.bytes)) = some (some (.int .u8 0), 1, 1) := by kernel_rfl

theorem clone_calls (A : Option Addr) (c : Nat) (b : List Int) (w : World) (hC : Kd.C (Kd.int .u8) w A b.length b) (hb : b.length ≤ 1000) :
    Calls Try.prog 8 #[.slice A b.length c] w fun e w' => ∃ v, e = .returned v ∧ Kd.R (Kd.int .u8) 5 w' w.heap.size (fun _ => True) v b ∧ Below w.heap.size w w' := by
  have HC := Aside0.mk hC
  have HB := Aside0.mk (Below.refl w.heap.size w)
  clear hC
  go_enter Try.func8, Try.ntmps8
  go_wp2_with (first | (refine Kd.R_append_row (h1 := fun _ => rfl) (w0 := w) (Value.int .u8) (0 : Int) w.heap.size rfl _ _ 22 5 (.int .u8 0) 1 rfl Try.underlying22 info5' rfl (by decide) (.slice none 0 0) [] b A b.length c (fun _ => True) rfl rfl (fun _ _ => trivial) (Kd.R_nil _ _ _ _ _) HC.out HB.out (Nat.le_refl _) (by simp; omega) ?_; intro v1 w1 hR hB1 _ _) | fail)
  go_ret
  exact ⟨_, rfl, by rw [List.nil_append] at hR; exact hR, hB1⟩

theorem cell_at' {w : World} {ad : Addr} {b : List Int} (h : ∀ j v, (b.map (Value.int .u8))[j]? = some v → w.cell? (ad.add j) = some v) (j : Nat) (hj : j < b.length) : w.cell? (ad.add j) = some (.int .u8 (b.getD j 0)) :=
  h j _ (by simp [List.getElem?_map, List.getD_eq_getElem?_getD, List.getElem?_eq_getElem hj])

/-- A list's cell at a place, and the list one longer. -/
theorem take_more (b : List Int) (n : Nat) (h : n < b.length) : b.take (n + 1) = b.take n ++ [b.getD n 0] := by
  rw [List.take_succ_eq_append_getElem h, List.getD_eq_getElem?_getD, List.getElem?_eq_getElem h]
  rfl

def s0 : St := ⟨[], 0, 0⟩
theorem is0 (tb : Nat) (h : 1 ≤ tb) : Is tb s0 0 0 := ⟨by simp [s0], by simp [s0], by simp [s0], by simp [s0]; omega, by simp [s0, val], by simp [s0]⟩

set_option maxHeartbeats 4000000 in
theorem conv_calls (fb tb : Nat) (hf1 : 1 ≤ fb) (hf8 : fb ≤ 8) (ht1 : 1 ≤ tb) (ht8 : tb ≤ 8) (pad : Bool) (A : Option Addr) (c : Nat) (b : List Int) (w : World) (hC : Kd.C (Kd.int .u8) w A b.length b) (hb : b.length ≤ 200) (hr : ∀ x ∈ b, 0 ≤ x ∧ x < 2 ^ fb)
    (s : St) (hs : s = conv fb tb b s0) (hok : pad = false → s.F ≤ 4 ∧ s.N = 0) :
    Calls Try.prog 7 #[.slice A b.length c, .int .u8 fb, .int .u8 tb, .bool pad] w fun e w' => ∃ v, e = .returned (.tuple #[v, .nilIface]) ∧ Kd.R (Kd.int .u8) 5 w' w.heap.size (fun _ => True) v (if pad = true ∧ 0 < s.F then s.R ++ [s.N * 2 ^ (tb - s.F) % 256] else s.R) ∧ Below w.heap.size w w' := by
  have HC := Aside0.mk hC
  have HR := Aside0.mk hr
  have HS := Aside0.mk hs
  have HOK := Aside0.mk hok
  clear hC hr hs hok
  have i1 : (1 : Int) ≤ (fb : Int) := by omega
  have i2 : (fb : Int) ≤ 8 := by omega
  have i3 : (1 : Int) ≤ (tb : Int) := by omega
  have i4 : (tb : Int) ≤ 8 := by omega
  go_enter Try.func7, Try.ntmps7
  go_wp2
  go_loopw [10, 11, 12, 35] (fun v10 v11 v12 v35 wr => ∃ (n : Nat) (s : St), n ≤ b.length ∧ v35 = .int .i64 n ∧ v11 = .int .u8 s.N ∧ v12 = .int .u8 s.F ∧ Aside0 (s = conv fb tb (b.take n) s0) ∧ Aside0 (Kd.R (Kd.int .u8) 5 wr w.heap.size (fun _ => True) v10 s.R) ∧ Aside0 (Below w.heap.size w wr)) (fun _ _ _ v35 _ => b.length - (intOf v35).toNat)
  case atStart => exact ⟨0, s0, Nat.zero_le _, rfl, rfl, rfl, ⟨rfl⟩, ⟨Kd.R_nil _ _ _ _ _⟩, ⟨Below.refl _ _⟩⟩
  case round =>
    obtain ⟨n, s1, hn, rfl, rfl, rfl, HE, HO, HB⟩ := hrel
    by_cases hlt : n < b.length
    · obtain ⟨ad, rfl, hcell⟩ := C_cells (Kd.C_below HC.out HB.out) (by omega)
      have kn := cell_at' hcell n hlt
      obtain ⟨x, hx⟩ : ∃ x, x = b.getD n 0 := ⟨_, rfl⟩
      rw [← hx] at kn
      clear hcell
      have hxr : 0 ≤ x ∧ x < 2 ^ fb := HR.out x (by rw [hx, List.getD_eq_getElem?_getD, List.getElem?_eq_getElem hlt]; simp)
      have HX := Aside0.mk hx
      clear hx
      obtain ⟨y0, hy0⟩ : ∃ y0, y0 = x * 2 ^ (8 - fb) % 256 := ⟨_, rfl⟩
      have hsh : x * 2 ^ (8 - (fb : Int)).toNat % 256 = y0 := by rw [hy0, show (8 - (fb : Int)).toNat = 8 - fb by omega]
      have hIs := conv_is fb tb hf8 ht8 (b.take n) s0 0 0 (is0 tb ht1) (fun z hz => HR.out z (List.mem_of_mem_take hz))
      rw [← HE.out] at hIs
      have HI := Aside0.mk hIs
      have HY := Aside0.mk hy0
      clear hIs hy0
      go_wp2
      go_loopw [10, 11, 12, 14, 15] (fun v10 v11 v12 v14 v15 w2 => ∃ (s2 : St) (bb : Int) (rem k m : Nat) (V y : Int), v11 = .int .u8 s2.N ∧ v12 = .int .u8 s2.F ∧ v14 = .int .u8 bb ∧ v15 = .int .u8 rem ∧ rem ≤ k ∧ rem ≤ 8 ∧ s2.F < tb ∧ s2.R.length ≤ 1600 ∧ Aside0 (ext tb k s2 bb rem = ext tb 8 s1 y0 fb) ∧ Aside0 (Is tb s2 V m ∧ bb = y * 2 ^ (8 - rem) ∧ 0 ≤ y ∧ y < 2 ^ rem ∧ m + rem ≤ 1600) ∧ Aside0 (Kd.R (Kd.int .u8) 5 w2 w.heap.size (fun _ => True) v10 s2.R) ∧ Aside0 (Below w.heap.size w w2)) (fun _ _ _ _ v15 _ => (intOf v15).toNat)
      case atStart =>
        have hI := HI.out
        simp only [Nat.zero_add, Int.zero_mul, Int.zero_add, List.length_take] at hI
        rw [Nat.min_eq_left (by omega)] at hI
        have hm : fb * n + fb ≤ 1600 := by
          have : fb * (n + 1) ≤ 8 * 200 := Nat.mul_le_mul hf8 (by omega)
          rw [Nat.mul_add] at this
          omega
        have hb2 : y0 = x * 2 ^ (8 - fb) := by
          rw [HY.out]
          refine Int.emod_eq_of_lt (Int.mul_nonneg hxr.1 (Int.le_of_lt (pow_pos' _))) ?_
          have h1 : (x + 1) * 2 ^ (8 - fb) ≤ 2 ^ fb * 2 ^ (8 - fb) := Int.mul_le_mul_of_nonneg_right (by omega) (Int.le_of_lt (pow_pos' _))
          rw [← Int.pow_add, show fb + (8 - fb) = 8 by omega, Int.add_mul] at h1
          have h2 := pow_pos' (8 - fb)
          have h3 : (2 : Int) ^ 8 = 256 := by decide
          omega
        exact ⟨s1, y0, fb, 8, _, _, x, rfl, rfl, by rw [HY.out], rfl, hf8, hf8, hI.few, is_short hI (by omega) ht1, ⟨rfl⟩, ⟨hI, hb2, hxr.1, hxr.2, hm⟩, HO, HB⟩
      case round =>
        obtain ⟨s2, bb, rem, k, m, V, y, rfl, rfl, rfl, rfl, hk, h8, hF, hL, HX2, HI2, HO2, HB2⟩ := hrel
        rcases Nat.eq_zero_or_pos rem with h0 | h0
        · subst h0
          go_wp2
          go_roundw
          case rel =>
            have hE : s2 = ext tb 8 s1 y0 fb := by
              rw [← HX2.out]
              cases k with
              | zero => rfl
              | succ k => rw [ext, if_pos rfl]
            refine ⟨n + 1, s2, by omega, by go_num, rfl, rfl, ⟨?_⟩, HO2, HB2⟩
            rw [take_more b n hlt, ← HX.out, conv, List.foldl_append, hE, HE.out, HY.out]
            rfl
          case measure => simp [intOf]; omega
        · have j1 : (s2.F : Int) < (tb : Int) := by omega
          have j2 : (0 : Int) < (rem : Int) := by omega
          have j3 : (rem : Int) ≤ 8 := by omega
          obtain ⟨te, hte⟩ : ∃ te, te = min rem (tb - s2.F) := ⟨_, rfl⟩
          obtain ⟨N1, hN1⟩ : ∃ N1, Go.bits .or .u8 (s2.N * 2 ^ te % 256) (bb / 2 ^ (8 - te)) = N1 := ⟨_, rfl⟩
          obtain ⟨b1, hb1⟩ : ∃ b1, bb * 2 ^ te % 256 = b1 := ⟨_, rfl⟩
          obtain ⟨F0, hF0⟩ : ∃ F0, F0 = s2.F := ⟨_, rfl⟩
          have hRF := @round_facts tb k rem te m s2 _ V bb y ht1 ht8 hk h0 h8 hte HX2.out HI2.out
          rw [hN1, hb1] at hRF
          have RF := Aside0.mk hRF
          clear hRF
          have q3 : (1 : Int) ≤ (te : Int) := by omega
          have q5 : (8 - (te : Int)).toNat = 8 - te := by omega
          by_cases hA : tb - s2.F < rem
          · have q1 : (tb : Int) - (s2.F : Int) = (te : Int) := by omega
            have q2 : (te : Int) < (rem : Int) := by omega
            have q4 : (s2.F : Int) + (te : Int) = (tb : Int) := by omega
            have HQ := Aside0.mk (show s2.F + te = tb by omega)
            have HT := Aside0.mk hte
            clear hA hte
            go_wp2_with (first | ((with_reducible refine gate_builtin (b := .append) (xs := #[.tmp 74, .tmp 76]) rfl ?_); at_builtin; refine Kd.R_append (Kd.int .u8) (w0 := w) w.heap.size rfl (.tmp 74) (.tmp 76) 22 5 (.int .u8 0) 1 rfl Try.underlying22 info5' rfl (by decide) (by omega) _ s2.R N1 [.int .u8 N1] (fun _ => True) (fun _ => False) rfl rfl rfl (fun _ hk => hk.elim) (fun _ _ => trivial) HO2.out HB2.out HB2.out.size (by omega) ?_; intro v1 w3 ho hb hg hat; have HO3 := Aside0.mk ho; have HB3 := Aside0.mk hb; clear ho hb hg hat) | fail)
            go_roundw
            case rel =>
              obtain ⟨k', m', V', y', z1, z2, z3, z4, z5⟩ := RF.out _ rfl
              rw [if_pos HQ.out] at z2 z3 z4 z5
              exact ⟨_, b1, rem - te, k', m', V', y', rfl, rfl, rfl, by rw [Int.ofNat_sub (by omega)], z1, by omega, z4, z5, ⟨z2⟩, ⟨z3⟩, HO3, HB3⟩
            case measure => simp [intOf]; omega
          · obtain rfl : te = rem := by omega
            have q1 : (te : Int) ≤ (tb : Int) - (s2.F : Int) := by omega
            have HT := Aside0.mk hte
            clear hte
            by_cases hB : s2.F + te = tb
            · have q4 : (s2.F : Int) + (te : Int) = (tb : Int) := by omega
              have HQ := Aside0.mk hB
              clear hA hB
              go_wp2_with (first | ((with_reducible refine gate_builtin (b := .append) (xs := #[.tmp 74, .tmp 76]) rfl ?_); at_builtin; refine Kd.R_append (Kd.int .u8) (w0 := w) w.heap.size rfl (.tmp 74) (.tmp 76) 22 5 (.int .u8 0) 1 rfl Try.underlying22 info5' rfl (by decide) (by omega) _ s2.R N1 [.int .u8 N1] (fun _ => True) (fun _ => False) rfl rfl rfl (fun _ hk => hk.elim) (fun _ _ => trivial) HO2.out HB2.out HB2.out.size (by omega) ?_; intro v1 w3 ho hb hg hat; have HO3 := Aside0.mk ho; have HB3 := Aside0.mk hb; clear ho hb hg hat) | fail)
              go_roundw
              case rel =>
                obtain ⟨k', m', V', y', z1, z2, z3, z4, z5⟩ := RF.out _ rfl
                rw [if_pos HQ.out] at z2 z3 z4 z5
                exact ⟨_, b1, te - te, k', m', V', y', rfl, rfl, rfl, by first | rfl | simp, z1, by omega, z4, z5, ⟨z2⟩, ⟨z3⟩, HO3, HB3⟩
              case measure => simp [intOf]; omega
            · have q4 : (s2.F : Int) + (te : Int) < (tb : Int) := by omega
              have HQ := Aside0.mk hB
              clear hA hB
              go_wp2
              go_roundw
              case rel =>
                obtain ⟨k', m', V', y', z1, z2, z3, z4, z5⟩ := RF.out _ rfl
                rw [if_neg HQ.out] at z2 z3 z4 z5
                exact ⟨_, b1, te - te, k', m', V', y', rfl, by first | rfl | simp, by first | rfl | rw [hb1], by first | rfl | simp, z1, by omega, z4, z5, ⟨z2⟩, ⟨z3⟩, HO2, HB2⟩
              case measure => simp [intOf]; omega
    · obtain rfl : n = b.length := by omega
      have hfin : s1 = s := by rw [HE.out, List.take_length, HS.out]
      subst hfin
      have hIs := conv_is fb tb hf8 ht8 b s0 0 0 (is0 tb ht1) HR.out
      rw [← HS.out] at hIs
      have hF := hIs.few
      have hL := is_short hIs (by rw [Nat.zero_add]; exact Nat.le_trans (Nat.mul_le_mul hf8 hb) (by omega)) ht1
      have hN0 := hIs.lo
      clear hIs
      cases pad with
      | false =>
        obtain ⟨o1, o2⟩ := HOK.out rfl
        go_wp2
        all_goals
          go_ret2
          refine ⟨_, rfl, ?_, HB.out⟩
          simpa using HO.out
      | true =>
        rcases Nat.eq_zero_or_pos s1.F with h0 | h0
        · have e0 : (s1.F : Int) = 0 := by omega
          go_wp2
          all_goals
            go_ret2
            refine ⟨_, rfl, ?_, HB.out⟩
            first | (simpa [h0] using HO.out) | (rw [if_neg (by omega)]; exact HO.out)
        · obtain ⟨te, hte⟩ : ∃ te, te = tb - s1.F := ⟨_, rfl⟩
          obtain ⟨N1, hN1⟩ : ∃ N1, s1.N * 2 ^ te % 256 = N1 := ⟨_, rfl⟩
          have q0 : (0 : Int) < (s1.F : Int) := by omega
          have q1 : (tb : Int) - (s1.F : Int) = (te : Int) := by omega
          have q3 : (1 : Int) ≤ (te : Int) := by omega
          have q6 : (te : Int) ≤ 8 := by omega
          have HF := Aside0.mk (show (if true = true ∧ 0 < s1.F then s1.R ++ [s1.N * 2 ^ (tb - s1.F) % 256] else s1.R) = s1.R ++ [N1] by rw [if_pos ⟨rfl, h0⟩, ← hte, hN1])
          have HT := Aside0.mk hte
          clear hte
          go_wp2_with (first | ((with_reducible refine gate_builtin (b := .append) (xs := #[.tmp 89, .tmp 91]) rfl ?_); at_builtin; refine Kd.R_append (Kd.int .u8) (w0 := w) w.heap.size rfl (.tmp 89) (.tmp 91) 22 5 (.int .u8 0) 1 rfl Try.underlying22 info5' rfl (by decide) (by omega) _ s1.R N1 [.int .u8 N1] (fun _ => True) (fun _ => False) rfl rfl rfl (fun _ hk => hk.elim) (fun _ _ => trivial) HO.out HB.out HB.out.size (by omega) ?_; intro v1 w3 ho hb2 hg hat; have HO3 := Aside0.mk ho; have HB3 := Aside0.mk hb2; clear ho hb2 hg hat) | fail)
          all_goals
            go_ret2
            exact ⟨_, rfl, by first | exact HO3.out | (rw [HF.out]; exact HO3.out) | (rw [if_pos h0, ← HT.out, hN1]; exact HO3.out) | (rw [← HT.out, hN1]; exact HO3.out), HB3.out⟩
end Go.Proofs.Ythkijnfpllbdnaa.PFnGroups
