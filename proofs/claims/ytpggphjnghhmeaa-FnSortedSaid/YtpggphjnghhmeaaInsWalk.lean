/-
  spec.SortedIns.
-/
import Derived.Test.YtpggphjnghhmeaaLessIn
import Derived.Deep.RegionHeld3
import Derived.IntWalk
namespace Go.Proofs.Ytpggphjnghhmeaa.Srt
open Go.RowKit Go.Proofs.Ytpggphjnghhmeaa.Hand Go.Proofs.Ytpggphjnghhmeaa.PFnSorted Go.Proofs.YtpggphjnghhmeaaW.PrintWords Go.Proofs.YtpggphjnghhmeaaW.PrintLast Go.Proofs.YtpggphjnghhmeaaW.PrintMore

/-- Two neighbours of an array of inputs, exchanged. -/
theorem in_swap {w : World} {base : Nat} {ok : Nat → Prop} {g n c : Nat} {ys : List In40} (h : kIn.R 40 w base ok (.slice (some ⟨g, 0, none⟩) n c) ys) {k : Nat} (hk : k + 1 < n) :
    kIn.R 40 ((w.setCells g ((k + 1) * 33) (cell40 (ys.getD k default))).setCells g (k * 33) (cell40 (ys.getD (k + 1) default))) base ok (.slice (some ⟨g, 0, none⟩) n c) (sw ys k) := by
  obtain ⟨hl, hg, cur, hh, hn, hz, _⟩ := R_form h
  obtain ⟨c1, ⟨rfl, hx1⟩, hl1, hr1, _⟩ := R_at h (i := k) (by omega)
  obtain ⟨c2, ⟨rfl, hx2⟩, hl2, hr2, _⟩ := R_at h (i := k + 1) hk
  have hz' : cur.size = c * 33 := hz
  have hl1' : (cell40 (ys.getD k default)).length = 33 := hl1
  have hl2' : (cell40 (ys.getD (k + 1) default)).length = 33 := hl2
  have hr1' : w.rangeAt g (k * 33) (cell40 (ys.getD k default)) := hr1
  have hr2' : w.rangeAt g ((k + 1) * 33) (cell40 (ys.getD (k + 1) default)) := hr2
  generalize cell40 (ys.getD k default) = ck at hl1' hr1' ⊢
  generalize cell40 (ys.getD (k + 1) default) = cm at hl2' hr2' ⊢
  obtain ⟨cs2, b1, s1, g1⟩ := setCells_blk g ck ((k + 1) * 33) w cur hh
  obtain ⟨cs3, b2, s2, g2⟩ := setCells_blk g cm (k * 33) _ cs2 b1
  refine R_swapped h hk hh b2 (fun j hj => (setCells_other g cm _ _ j hj).trans (setCells_other g ck _ _ j hj)) (by rw [s2, s1]) (fun p => ?_)
  have hkc : (k + 1) * 33 + 33 ≤ cur.size := by rw [hz']; omega
  show _ = if p / 33 = k then cur[p + 33]? else if p / 33 = k + 1 then cur[p - 33]? else cur[p]?
  rw [g2, g1, s1, hl1', hl2']
  by_cases d1 : p / 33 = k
  · rw [if_pos d1, if_pos (by omega)]
    have e : cm[p - k * 33]? = some (cm[p - k * 33]'(by omega)) := List.getElem?_eq_getElem (by omega)
    have h3 := hr2' (p - k * 33) _ e
    rw [blk_cell hh, show (k + 1) * 33 + (p - k * 33) = p + 33 by omega] at h3
    rw [e, h3]
  · rw [if_neg d1, if_neg (by omega)]
    by_cases d2 : p / 33 = k + 1
    · rw [if_pos d2, if_pos (by omega)]
      have e : ck[p - (k + 1) * 33]? = some (ck[p - (k + 1) * 33]'(by omega)) := List.getElem?_eq_getElem (by omega)
      have h3 := hr1' (p - (k + 1) * 33) _ e
      rw [blk_cell hh, show k * 33 + (p - (k + 1) * 33) = p - 33 by omega] at h3
      rw [e, h3]
    · rw [if_neg d2, if_neg (by omega)]
theorem In_len {w : World} {base : Nat} {ok : Nat → Prop} {g n c : Nat} {ys : List In40} (h : kIn.R 40 w base ok (.slice (some ⟨g, 0, none⟩) n c) ys) {k : Nat} (hk : k < n) : (ys.getD k default).h.length = 32 ∧ w.rangeAt g (k * 33) (cell40 (ys.getD k default)) ∧ w.there g (k * 33) 33 := by
  obtain ⟨c1, ⟨rfl, hx1⟩, hl1, hr1, ht⟩ := R_at h (i := k) hk
  exact ⟨hx1, hr1, ht⟩
theorem infoI40 : (Try.prog.info? 40).map (fun i => (i.zero, i.size, i.bytes)) = some (some (.agg #[.int .u8 0, .int .u8 0, .int .u8 0, .int .u8 0, .int .u8 0, .int .u8 0, .int .u8 0, .int .u8 0, .int .u8 0, .int .u8 0, .int .u8 0, .int .u8 0, .int .u8 0, .int .u8 0, .int .u8 0, .int .u8 0, .int .u8 0, .int .u8 0, .int .u8 0, .int .u8 0, .int .u8 0, .int .u8 0, .int .u8 0, .int .u8 0, .int .u8 0, .int .u8 0, .int .u8 0, .int .u8 0, .int .u8 0, .int .u8 0, .int .u8 0, .int .u8 0, .int .u32 0]), 33, 36) := by kernel_rfl
set_option maxRecDepth 100000 in
set_option maxHeartbeats 16000000 in
theorem sortedIns_calls (A : Option Addr) (n c : Nat) (I : List In40) (w : World) (hI : Kd.C kIn w A n I) (hn : n ≤ 12) :
    Calls Try.prog 5 #[.slice A n c] w fun e w' => ∃ A' c', e = .returned (.slice A' n c') ∧ n ≤ c' ∧ Kd.C kIn w' A' n (srt lessI n I) ∧ Below w.heap.size w w' := by
  have HI := Aside0.mk hI
  have HIL : Aside0 (I.length = n) := ⟨hI.1⟩
  have HB := Aside0.mk (Below.refl w.heap.size w)
  clear hI
  go_enter Try.func5, Try.ntmps5
  go_wp2_with (first
    | ((with_reducible refine gate_dst (N := 6) rfl ?_); refine Kd.R_lit kIn (w0 := w) w.heap.size 40 ?hg (N := 6) ?hd (xs := ([] : List In40)) (inner := []) (ok := fun _ => True) (okp := fun _ => True) ?hr ?hp (fun _ hk => hk) trivial HB.out (Nat.le_refl _) (by simp) ?_; (case hd => rfl); (case hg => rfl); (case hr => first | (go_simp; done) | (go_simp; rfl)); (case hp => exact (Reps.none _ _)); intro v6 w1 ho hb1 hgr hnew; have HO1 := Aside0.mk ho; have HB1 := Aside0.mk hb1; clear ho hb1 hgr hnew)
    | ((with_reducible refine gate_builtin (b := .append) (xs := #[.tmp 6, .tmp 7]) rfl ?_); refine Kd.R_append_rows kIn (w0 := w) w.heap.size rfl (.tmp 6) (.tmp 7) 22 40 _ 36 rfl Try.underlying22 infoI40 rfl (by decide) (by decide) v6 [] I A n c (fun _ => True) (fun _ => False) rfl rfl HO1.out (Kd.C_below HI.out HB1.out) (fun _ _ h => h) (fun _ h => h.elim) (fun _ _ => trivial) HB1.out HB1.out.size (by simp; omega) ?_; intro v8 w2 hR hb2 _ _; rw [List.nil_append] at hR; obtain ⟨A3, c3, rfl⟩ := Kd.R_slice hR; rw [HIL.out] at hR ⊢; have HR2 := Aside0.mk hR; have HB2 := Aside0.mk hb2; clear hR hb2)
    | fail)
  go_loopw [11] (fun v11 wr => ∃ i : Nat, v11 = .int .i64 i ∧ i ≤ n ∧ Aside0 (kIn.R 40 wr w.heap.size (fun _ => True) (.slice A3 n c3) (srt lessI i I)) ∧ Aside0 (Below w.heap.size w wr)) (fun v11 _ => n - (intOf v11).toNat)
  case atStart => exact ⟨0, rfl, Nat.zero_le _, HR2, HB2⟩
  case round =>
    obtain ⟨i, rfl, hin, HR, HBr⟩ := hrel
    clear HR2 HB2 HB1 HO1
    by_cases hlt : i < n
    · obtain ⟨g, rfl⟩ := R_some HR.out (by omega)
      go_wp2_with fail
      have HBB : Aside0 (bub lessI i (srt lessI i I) = srt lessI (i + 1) I) := ⟨rfl⟩
      go_loopw [5] (fun v5 wq => ∃ (j : Nat) (l : List In40), v5 = .int .i64 j ∧ j ≤ i ∧ Aside0 (kIn.R 40 wq w.heap.size (fun _ => True) (.slice (some ⟨g, 0, none⟩) n c3) l) ∧ Aside0 (bub lessI j l = srt lessI (i + 1) I) ∧ Aside0 (Below w.heap.size w wq)) (fun v5 _ => (intOf v5).toNat)
      case atStart => exact ⟨i, _, rfl, Nat.le_refl _, HR, HBB, HBr⟩
      case round =>
        obtain ⟨m, l, rfl, hmi, HRl, HBl, HBq⟩ := hrel
        clear HR HBB HBr
        by_cases hm0 : m = 0
        · subst hm0
          have HE : Aside0 (l = srt lessI (i + 1) I) := ⟨HBl.out⟩
          go_wp2_with fail
          go_quiet (fail)
          go_wp2_with fail
          go_roundw
          case rel => exact ⟨i + 1, rfl, hlt, ⟨by rw [← HE.out]; exact Kd.R_below HRl.out (by apply pw_below_drewN; exact Below.refl _ _)⟩, ⟨by apply pw_below_drewN; exact HBq.out⟩⟩
          case measure => simp only [intOf]; omega
        · obtain ⟨k, hk⟩ : ∃ k, m = k + 1 := ⟨m - 1, by omega⟩
          have hsub : (m : Int) - 1 = (k : Int) := by omega
          have hpos : (0 : Int) < (m : Int) := by omega
          have m0 : (0 : Int) ≤ (m : Int) := by omega
          have mn : (m : Int) < (n : Int) := by omega
          have kk0 : (0 : Int) ≤ (k : Int) := by omega
          have kn : (k : Int) < (n : Int) := by omega
          obtain ⟨b, hb⟩ : ∃ b, b = lessI (l.getD m default) (l.getD k default) := ⟨_, rfl⟩
          obtain ⟨hxm, hrm, htm⟩ := In_len HRl.out (k := m) (by omega)
          obtain ⟨hxk, hrk, htk⟩ := In_len HRl.out (k := k) (by omega)
          obtain ⟨CM, hCM⟩ : ∃ CM, CM = cell40 (l.getD m default) := ⟨_, rfl⟩
          obtain ⟨CK, hCK⟩ : ∃ CK, CK = cell40 (l.getD k default) := ⟨_, rfl⟩
          have HLE : Aside0 (∀ W, Calls Try.prog 11 #[.agg CM.toArray, .agg CK.toArray] W fun e w' => e = .returned (.bool b) ∧ Below W.heap.size W w') := ⟨fun W => by rw [hb, hCM, hCK]; exact lessIn_calls _ _ W hxm hxk⟩
          rw [← hCM] at hrm
          rw [← hCK] at hrk
          have HB := Aside0.mk hb
          have HK := Aside0.mk hk
          have hu40 := Try.underlying40
          have him : (Try.prog.info? 40).map (·.size) = some CM.length := by rw [info40, hCM, cell40_length hxm]
          have hik : (Try.prog.info? 40).map (·.size) = some CK.length := by rw [info40, hCK, cell40_length hxk]
          have HCM := Aside0.mk hCM
          have HCK := Aside0.mk hCK
          have hldm : ∀ W : World, W.rangeAt g (m * 33) CM → (Instr.loadAt 40 (.pointer (some ⟨g, m * 33, none⟩))).run Try.prog W = .ok (.agg CM.toArray) W := fun W h => run_loadAt_mid W g (m * 33) 40 CM _ h hu40 rfl him
          have hldk : ∀ W : World, W.rangeAt g (k * 33) CK → (Instr.loadAt 40 (.pointer (some ⟨g, k * 33, none⟩))).run Try.prog W = .ok (.agg CK.toArray) W := fun W h => run_loadAt_mid W g (k * 33) 40 CK _ h hu40 rfl hik
          simp [go_sem] at hldm hldk
          have hposn : 0 < m := by omega
          have hwk : IntKind.i64.wrap (k : Int) = (k : Int) := IntWalk.i64_in _ (by omega)
          have hwr : IntKind.i64.wrap ((m : Int) - 1) = (k : Int) := by rw [hsub]; exact IntWalk.i64_in _ (by omega)
          clear hb hCM hCK hk hu40 him hik
          have HTM := Aside0.mk htm
          have HTK := Aside0.mk htk
          clear htm htk
          have HSZ : Aside0 (CM.length = 33 ∧ CK.length = 33 ∧ (∀ v ∈ CM, v.oneCell' = true) ∧ ∀ v ∈ CK, v.oneCell' = true) := ⟨by rw [HCM.out, HCK.out]; exact ⟨cell40_length hxm, cell40_length hxk, cell40_one _, cell40_one _⟩⟩
          have HSWP : Aside0 (∀ W, kIn.R 40 W w.heap.size (fun _ => True) (.slice (some ⟨g, 0, none⟩) n c3) l → kIn.R 40 ((W.setCells g (m * 33) CK).setCells g (k * 33) CM) w.heap.size (fun _ => True) (.slice (some ⟨g, 0, none⟩) n c3) (sw l k)) := ⟨fun W h => by rw [HCM.out, HCK.out, HK.out]; exact in_swap h (by have := HK.out; omega)⟩
          have HGB : Aside0 (w.heap.size ≤ g) := ⟨(R_form HRl.out).2.1⟩
          have HTH : Aside0 (∀ W, kIn.R 40 W w.heap.size (fun _ => True) (.slice (some ⟨g, 0, none⟩) n c3) l → W.there g (m * 33) 33 ∧ W.there g (k * 33) 33) := ⟨fun W h => ⟨(In_len h (k := m) (by omega)).2.2, (In_len h (k := k) (by omega)).2.2⟩⟩
          cases b
          · have HE : Aside0 (l = srt lessI (i + 1) I) := ⟨by rw [← HBl.out, HK.out]; exact (bub_no (by rw [← HK.out]; exact HB.out.symm)).symm⟩
            go_wp2_with fail
            go_region_held3 (fun w' => w'.rangeAt g (m * 33) CM ∧ w'.rangeAt g (k * 33) CK)
              (first | (with_reducible exact ⟨hrm, hrk⟩) | (with_reducible exact ⟨range_keep hrm (below_drew (Below.refl _ _)), range_keep hrk (below_drew (Below.refl _ _))⟩) | (with_reducible exact ⟨range_keep hrm HB2.out, range_keep hrk HB2.out⟩) | go_keep)
              (first
              | (go_at_call 11; (with_reducible refine (HLE.out _).mono ?_); rintro e2 w2 ⟨rfl, hb2⟩; have HB2 := Aside0.mk (show Below wr.heap.size wr w2 from below_step (below_drew (Below.refl _ _)) hb2); clear hb2))
            all_goals
              go_wp2_with fail
              go_roundw
              case rel => exact ⟨i + 1, rfl, hlt, ⟨by rw [← HE.out]; exact Kd.R_below HRl.out HB2.out⟩, ⟨below_step HBq.out HB2.out⟩⟩
              case measure => simp only [intOf]; omega
          · have HE : Aside0 (bub lessI k (sw l k) = srt lessI (i + 1) I) := ⟨by rw [← HBl.out, HK.out]; exact (bub_yes (by rw [← HK.out]; exact HB.out.symm)).symm⟩
            go_wp2_with fail
            go_region_held3 (fun w' => w'.rangeAt g (m * 33) CM ∧ w'.rangeAt g (k * 33) CK)
              (first | (with_reducible exact ⟨hrm, hrk⟩) | (with_reducible exact ⟨range_keep hrm (below_drew (Below.refl _ _)), range_keep hrk (below_drew (Below.refl _ _))⟩) | (with_reducible exact ⟨range_keep hrm HB2.out, range_keep hrk HB2.out⟩) | go_keep)
              (first
              | (go_at_call 11; (with_reducible refine (HLE.out _).mono ?_); rintro e2 w2 ⟨rfl, hb2⟩; have HB2 := Aside0.mk (show Below wr.heap.size wr w2 from below_step (below_drew (Below.refl _ _)) hb2); clear hb2))
            have hrm2 := range_keep hrm HB2.out
            have hrk2 := range_keep hrk HB2.out
            have HR2 := Aside0.mk (Kd.R_below HRl.out HB2.out)
            obtain ⟨W1, hW1⟩ : ∃ W1, W1 = w2.drew.setCells g (m * 33) CK := ⟨_, rfl⟩
            obtain ⟨W2, hW2⟩ : ∃ W2, W2 = W1.setCells g (k * 33) CM := ⟨_, rfl⟩
            have hst1 : (Instr.storeAt 40 (.pointer (some ⟨g, m * 33, none⟩)) (.agg CK.toArray)).run Try.prog w2.drew = .ok () W1 := by
              rw [hW1]
              exact run_storeAt_mid w2.drew g (m * 33) 40 CK.toArray (by rw [List.size_toArray, HSZ.out.2.1]; exact (HTH.out _ (Kd.R_below HR2.out (below_drew (Below.refl _ _)))).1) (by rw [info40, List.size_toArray, HSZ.out.2.1]) (all_oneCell_toArray HSZ.out.2.2.2)
            have hst2 : (Instr.storeAt 40 (.pointer (some ⟨g, k * 33, none⟩)) (.agg CM.toArray)).run Try.prog W1 = .ok () W2 := by
              rw [hW2, hW1]
              exact run_storeAt_mid _ g (k * 33) 40 CM.toArray (by rw [List.size_toArray, HSZ.out.1]; exact World.there_setCells (HTH.out _ (Kd.R_below HR2.out (below_drew (Below.refl _ _)))).2 _ _ _) (by rw [info40, List.size_toArray, HSZ.out.1]) (all_oneCell_toArray HSZ.out.2.2.1)
            have hck := HSZ.out.2.1
            have hcm := HSZ.out.1
            simp [go_sem, hck, hcm] at hst1 hst2
            have hl1 : (Instr.loadAt 40 (.pointer (some ⟨g, m * 33, none⟩))).run Try.prog w2.drew = .ok (.agg CM.toArray) w2.drew := run_loadAt_mid w2.drew g (m * 33) 40 CM _ (range_keep hrm2 (below_drew (Below.refl _ _))) Try.underlying40 rfl (by rw [info40, hcm])
            have hl2 : (Instr.loadAt 40 (.pointer (some ⟨g, k * 33, none⟩))).run Try.prog w2.drew = .ok (.agg CK.toArray) w2.drew := run_loadAt_mid w2.drew g (k * 33) 40 CK _ (range_keep hrk2 (below_drew (Below.refl _ _))) Try.underlying40 rfl (by rw [info40, hck])
            simp [go_sem] at hl1 hl2
            have HR3 : Aside0 (kIn.R 40 W2 w.heap.size (fun _ => True) (.slice (some ⟨g, 0, none⟩) n c3) (sw l k)) := ⟨by rw [hW2, hW1]; exact HSWP.out _ (Kd.R_below HR2.out (below_drew (Below.refl _ _)))⟩
            have HB3 : Aside0 (Below w.heap.size w W2) := ⟨by rw [hW2, hW1]; exact setCells_below HGB.out _ _ _ (setCells_below HGB.out _ _ _ (below_drew (below_step HBq.out HB2.out)))⟩
            clear hW1 hW2 hrm hrk hldm hldk hrm2 hrk2
            go_wp2_with fail
            go_region_law (fail)
            all_goals
              go_wp2_with fail
              go_roundw
              case rel => exact ⟨k, _, rfl, by have := HK.out; omega, HR3, HE, HB3⟩
              case measure => simp only [intOf]; have := HK.out; omega
    · obtain rfl : i = n := by omega
      go_wp2_with fail
      refine bodyPost_ret (results_tmp rfl _ _ _) rfl ⟨A3, c3, rfl, ?_, ?_, HBr.out⟩
      · have h := Kd.R_reads' HR.out
        exact h.2.1
      · have h := Kd.R_reads' HR.out
        have h2 := h.2.2
        rwa [← h.1] at h2
end Go.Proofs.Ytpggphjnghhmeaa.Srt
