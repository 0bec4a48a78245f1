/-
  sort.insertionSort, sort.Sort and sort.IsSorted over the inputs' row and over the outputs' row.
-/
import Derived.Test.YtpggphjnghhmeaaSwapWalk
namespace Go.Proofs.Ytpggphjnghhmeaa.Srt
open Go.RowKit Go.Proofs.Ytpggphjnghhmeaa.Hand Go.Proofs.Ytpggphjnghhmeaa.PFnSorted Go.Proofs.YtpggphjnghhmeaaW.PrintWords Go.Proofs.YtpggphjnghhmeaaW.PrintLast Go.Proofs.YtpggphjnghhmeaaW.PrintMore

theorem sw_mem {α : Type} [Inhabited α] {l : List α} {k : Nat} (h : k + 1 < l.length) {x : α} (hx : x ∈ sw l k) : x ∈ l := by
  obtain ⟨i, hi, rfl⟩ := List.getElem_of_mem hx
  rw [sw_length] at hi
  have e : (sw l k)[i]'(by rw [sw_length]; exact hi) = (sw l k).getD i default := by rw [List.getD_eq_getElem?_getD, List.getElem?_eq_getElem (by rw [sw_length]; exact hi)]; rfl
  have g : ∀ j, j < l.length → l.getD j default ∈ l := fun j hj => by rw [List.getD_eq_getElem?_getD, List.getElem?_eq_getElem hj]; exact List.getElem_mem hj
  rw [e, sw_get _ _ _ h]
  split
  · exact g _ (by omega)
  · split
    · exact g _ h
    · exact g _ hi
theorem bub_mem {α : Type} [Inhabited α] (less : α → α → Bool) : ∀ (k : Nat) (l : List α), (k = 0 ∨ k < l.length) → ∀ x ∈ bub less k l, x ∈ l
  | 0, l, _, x, hx => hx
  | k + 1, l, h, x, hx => by
    unfold bub at hx
    split at hx
    · exact sw_mem (by omega) (bub_mem less k (sw l k) (by rw [sw_length]; omega) x hx)
    · exact hx
theorem srt_mem {α : Type} [Inhabited α] (less : α → α → Bool) (l : List α) : ∀ i, i ≤ l.length → ∀ x ∈ srt less i l, x ∈ l
  | 0, _, x, hx => hx
  | i + 1, h, x, hx => by
    unfold srt at hx
    exact srt_mem less l i (by omega) x (bub_mem less i _ (by rw [srt_length]; omega) x hx)
theorem bub_yes {α : Type} [Inhabited α] {less : α → α → Bool} {k : Nat} {l : List α} (h : less (l.getD (k + 1) default) (l.getD k default) = true) : bub less (k + 1) l = bub less k (sw l k) := by
  show (if _ then _ else _) = _
  rw [if_pos h]
theorem bub_no {α : Type} [Inhabited α] {less : α → α → Bool} {k : Nat} {l : List α} (h : less (l.getD (k + 1) default) (l.getD k default) = false) : bub less (k + 1) l = l := by
  show (if _ then _ else _) = _
  rw [if_neg (by rw [h]; decide)]
theorem R_lt {α : Type} {d : Kd α} {e : Nat} {w : World} {base : Nat} {ok : Nat → Prop} {g n c : Nat} {ys : List α} (h : d.R e w base ok (.slice (some ⟨g, 0, none⟩) n c) ys) : g < w.heap.size := by
  obtain ⟨_, _, cur, hh, _⟩ := R_form h
  exact blk_lt hh
def small (l : List S27) : Prop := ∀ y ∈ l, y.f1.length ≤ 1000000
def any (_ : List In40) : Prop := True

theorem rowlessI (g n c : Nat) (l : List In40) (i j : Nat) (w : World) (base : Nat) (hR : kPI.R 50 w base (fun _ => True) (.slice (some ⟨g, 0, none⟩) n c) l) (hi : i < n) (hj : j < n) (_hs : any l) :
    Calls Try.prog 56 #[.slice (some ⟨g, 0, none⟩) n c, .int .i64 i, .int .i64 j] w fun e w' => e = .returned (.bool (lessI (l.getD i default) (l.getD j default))) ∧ Below w.heap.size w w' := by
  have hq := Kd.R_reads' hR
  have hC := hq.2.2
  rw [← hq.1] at hC
  exact lessI_calls _ n c l i j w hC hi hj
theorem lessI_is (A : Option Addr) (n c : Nat) (W : World) : (method 207 59 (.slice A n c) "Less").run Try.prog W = .ok (56, .slice A n c) W := by kernel_rfl
theorem swapI_is (A : Option Addr) (n c : Nat) (W : World) : (method 207 59 (.slice A n c) "Swap").run Try.prog W = .ok (57, .slice A n c) W := by kernel_rfl
theorem lenI_is (A : Option Addr) (n c : Nat) (W : World) : (method 207 59 (.slice A n c) "Len").run Try.prog W = .ok (55, .slice A n c) W := by kernel_rfl
set_option maxRecDepth 100000 in
set_option maxHeartbeats 8000000 in
theorem isortI_calls (g n c : Nat) (ys : List In40) (w : World) (base : Nat) (hR : kPI.R 50 w base (fun _ => True) (.slice (some ⟨g, 0, none⟩) n c) ys) (hn2 : 2 ≤ n) (hn : n ≤ 12) (hs : any ys) :
    Calls Try.prog 25 #[.iface 59 (.slice (some ⟨g, 0, none⟩) n c), .int .i64 0, .int .i64 n] w (IsSwap kPI 50 w base g n c (srt lessI n ys)) := by
  have HR0 : Aside0 (kPI.R 50 w base (fun _ => True) (.slice (some ⟨g, 0, none⟩) n c) (srt lessI 1 ys)) := ⟨hR⟩
  have HS0 : Aside0 (any (srt lessI 1 ys)) := ⟨hs⟩
  have HF0 : Aside0 (Fr g w w) := ⟨Fr.refl g w⟩
  have HYL : Aside0 (ys.length = n) := ⟨(Kd.R_reads' hR).1.symm⟩
  clear hR hs
  have hmL := lessI_is (some ⟨g, 0, none⟩) n c
  have hmS := swapI_is (some ⟨g, 0, none⟩) n c
  go_enter Try.func25, Try.ntmps25
  go_wp2_with fail
  go_loopw [6] (fun v6 wr => ∃ i : Nat, v6 = .int .i64 i ∧ 1 ≤ i ∧ i ≤ n ∧ Aside0 (kPI.R 50 wr base (fun _ => True) (.slice (some ⟨g, 0, none⟩) n c) (srt lessI i ys)) ∧ Aside0 (any (srt lessI i ys)) ∧ Aside0 (Fr g w wr)) (fun v6 _ => n - (intOf v6).toNat)
  case atStart => exact ⟨1, rfl, Nat.le_refl _, by omega, HR0, HS0, HF0⟩
  case round =>
    obtain ⟨i, rfl, hi1, hin, HR, HS, HF⟩ := hrel
    by_cases hlt : i < n
    · clear HR0 HS0 HF0
      go_wp2_with fail
      have HBB : Aside0 (bub lessI i (srt lessI i ys) = srt lessI (i + 1) ys) := ⟨rfl⟩
      go_loopw [7] (fun v7 wq => ∃ (j : Nat) (l : List In40), v7 = .int .i64 j ∧ j ≤ i ∧ Aside0 (kPI.R 50 wq base (fun _ => True) (.slice (some ⟨g, 0, none⟩) n c) l) ∧ Aside0 (bub lessI j l = srt lessI (i + 1) ys) ∧ Aside0 (any l) ∧ Aside0 (Fr g w wq)) (fun v7 _ => (intOf v7).toNat)
      case atStart => exact ⟨i, _, rfl, Nat.le_refl _, HR, HBB, HS, HF⟩
      case round =>
        obtain ⟨m, l, rfl, hmi, HRl, HBl, HSl, HFl⟩ := hrel
        clear HR HS HF HBB
        by_cases hm0 : m = 0
        · subst hm0
          have HE : Aside0 (l = srt lessI (i + 1) ys) := ⟨HBl.out⟩
          go_wp2_with fail
          go_roundw
          case rel => exact ⟨i + 1, rfl, by omega, hlt, ⟨by rw [← HE.out]; exact HRl.out⟩, ⟨by rw [← HE.out]; exact HSl.out⟩, HFl⟩
          case measure => simp only [intOf]; omega
        · obtain ⟨k, hk⟩ : ∃ k, m = k + 1 := ⟨m - 1, by omega⟩
          have hsub : (m : Int) - 1 = (k : Int) := by omega
          have hpos : (0 : Int) < (m : Int) := by omega
          obtain ⟨b, hb⟩ : ∃ b, b = lessI (l.getD m default) (l.getD k default) := ⟨_, rfl⟩
          have HLE : Aside0 (Calls Try.prog 56 #[.slice (some ⟨g, 0, none⟩) n c, .int .i64 m, .int .i64 k] wr fun e w' => e = .returned (.bool b) ∧ Below wr.heap.size wr w') := ⟨by rw [hb]; exact rowlessI g n c l m k wr base HRl.out (by omega) (by omega) HSl.out⟩
          have HB := Aside0.mk hb
          have HK := Aside0.mk hk
          have HSWL : Aside0 (∀ W, kPI.R 50 W base (fun _ => True) (.slice (some ⟨g, 0, none⟩) n c) l → Calls Try.prog 57 #[.slice (some ⟨g, 0, none⟩) n c, .int .i64 m, .int .i64 k] W (IsSwap kPI 50 W base g n c (sw l k))) := ⟨fun W h => swap57_calls g n c l m k W base h (by omega) hk⟩
          have HM1 : Aside0 (k + 1 < l.length) := ⟨by have := (Kd.R_reads' HRl.out).1; omega⟩
          clear hb
          cases b
          · have HE : Aside0 (l = srt lessI (i + 1) ys) := ⟨by rw [← HBl.out, HK.out]; exact (bub_no (by rw [← HK.out]; exact HB.out.symm)).symm⟩
            clear hk
            go_wp2_with (first
              | (go_at_call 56; (with_reducible refine HLE.out.mono ?_); rintro e2 w2 ⟨rfl, hb2⟩; have HB2 := Aside0.mk hb2; clear hb2)
              | fail)
            go_roundw
            case rel => exact ⟨i + 1, rfl, by omega, hlt, ⟨by rw [← HE.out]; exact Kd.R_below HRl.out HB2.out⟩, ⟨by rw [← HE.out]; exact HSl.out⟩, ⟨HFl.out.trans (Fr.of_below HB2.out (R_lt HRl.out))⟩⟩
            case measure => simp only [intOf]; omega
          · have HE : Aside0 (bub lessI k (sw l k) = srt lessI (i + 1) ys) := ⟨by rw [← HBl.out, HK.out]; exact (bub_yes (by rw [← HK.out]; exact HB.out.symm)).symm⟩
            clear hk
            go_wp2_with (first
              | (go_at_call 56; (with_reducible refine HLE.out.mono ?_); rintro e2 w2 ⟨rfl, hb2⟩; have HB2 := Aside0.mk hb2; clear hb2)
              | (go_at_call 57; (with_reducible refine (HSWL.out _ (Kd.R_below HRl.out HB2.out)).mono ?_); intro e3 w3 hq; unfold IsSwap at hq; obtain ⟨rfl, hR3, hF3⟩ := hq; have HR3 := Aside0.mk hR3; have HF3 := Aside0.mk hF3; clear hR3 hF3)
              | fail)
            go_roundw
            case rel => exact ⟨k, _, rfl, by have := HK.out; omega, HR3, HE, ⟨trivial⟩, ⟨(HFl.out.trans (Fr.of_below HB2.out (R_lt HRl.out))).trans HF3.out⟩⟩
            case measure => simp only [intOf]; have := HK.out; omega
    · obtain rfl : i = n := by omega
      go_wp2_with fail
      go_end0
      exact ⟨rfl, HR.out, HF.out⟩

theorem rowlessO (g n c : Nat) (l : List S27) (i j : Nat) (w : World) (base : Nat) (hR : kPO.R 54 w base (fun _ => True) (.slice (some ⟨g, 0, none⟩) n c) l) (hi : i < n) (hj : j < n) (_hs : small l) :
    Calls Try.prog 60 #[.slice (some ⟨g, 0, none⟩) n c, .int .i64 i, .int .i64 j] w fun e w' => e = .returned (.bool (lessO (l.getD i default) (l.getD j default))) ∧ Below w.heap.size w w' := by
  have hq := Kd.R_reads' hR
  have hC := hq.2.2
  rw [← hq.1] at hC
  exact (lessO_calls _ n c l i j w hC hi hj _hs).mono fun e w' ⟨a, q, b⟩ => ⟨a, by rw [b]; exact pw_below_drewN (Below.refl _ _) q⟩
theorem lessO_is (A : Option Addr) (n c : Nat) (W : World) : (method 207 60 (.slice A n c) "Less").run Try.prog W = .ok (60, .slice A n c) W := by kernel_rfl
theorem swapO_is (A : Option Addr) (n c : Nat) (W : World) : (method 207 60 (.slice A n c) "Swap").run Try.prog W = .ok (61, .slice A n c) W := by kernel_rfl
theorem lenO_is (A : Option Addr) (n c : Nat) (W : World) : (method 207 60 (.slice A n c) "Len").run Try.prog W = .ok (59, .slice A n c) W := by kernel_rfl
set_option maxRecDepth 100000 in
set_option maxHeartbeats 8000000 in
theorem isortO_calls (g n c : Nat) (ys : List S27) (w : World) (base : Nat) (hR : kPO.R 54 w base (fun _ => True) (.slice (some ⟨g, 0, none⟩) n c) ys) (hn2 : 2 ≤ n) (hn : n ≤ 12) (hs : small ys) :
    Calls Try.prog 25 #[.iface 60 (.slice (some ⟨g, 0, none⟩) n c), .int .i64 0, .int .i64 n] w (IsSwap kPO 54 w base g n c (srt lessO n ys)) := by
  have HR0 : Aside0 (kPO.R 54 w base (fun _ => True) (.slice (some ⟨g, 0, none⟩) n c) (srt lessO 1 ys)) := ⟨hR⟩
  have HS0 : Aside0 (small (srt lessO 1 ys)) := ⟨hs⟩
  have HF0 : Aside0 (Fr g w w) := ⟨Fr.refl g w⟩
  have HYL : Aside0 (ys.length = n) := ⟨(Kd.R_reads' hR).1.symm⟩
  clear hR hs
  have hmL := lessO_is (some ⟨g, 0, none⟩) n c
  have hmS := swapO_is (some ⟨g, 0, none⟩) n c
  go_enter Try.func25, Try.ntmps25
  go_wp2_with fail
  go_loopw [6] (fun v6 wr => ∃ i : Nat, v6 = .int .i64 i ∧ 1 ≤ i ∧ i ≤ n ∧ Aside0 (kPO.R 54 wr base (fun _ => True) (.slice (some ⟨g, 0, none⟩) n c) (srt lessO i ys)) ∧ Aside0 (small (srt lessO i ys)) ∧ Aside0 (Fr g w wr)) (fun v6 _ => n - (intOf v6).toNat)
  case atStart => exact ⟨1, rfl, Nat.le_refl _, by omega, HR0, HS0, HF0⟩
  case round =>
    obtain ⟨i, rfl, hi1, hin, HR, HS, HF⟩ := hrel
    by_cases hlt : i < n
    · clear HR0 HS0 HF0
      go_wp2_with fail
      have HBB : Aside0 (bub lessO i (srt lessO i ys) = srt lessO (i + 1) ys) := ⟨rfl⟩
      go_loopw [7] (fun v7 wq => ∃ (j : Nat) (l : List S27), v7 = .int .i64 j ∧ j ≤ i ∧ Aside0 (kPO.R 54 wq base (fun _ => True) (.slice (some ⟨g, 0, none⟩) n c) l) ∧ Aside0 (bub lessO j l = srt lessO (i + 1) ys) ∧ Aside0 (small l) ∧ Aside0 (Fr g w wq)) (fun v7 _ => (intOf v7).toNat)
      case atStart => exact ⟨i, _, rfl, Nat.le_refl _, HR, HBB, HS, HF⟩
      case round =>
        obtain ⟨m, l, rfl, hmi, HRl, HBl, HSl, HFl⟩ := hrel
        clear HR HS HF HBB
        by_cases hm0 : m = 0
        · subst hm0
          have HE : Aside0 (l = srt lessO (i + 1) ys) := ⟨HBl.out⟩
          go_wp2_with fail
          go_roundw
          case rel => exact ⟨i + 1, rfl, by omega, hlt, ⟨by rw [← HE.out]; exact HRl.out⟩, ⟨by rw [← HE.out]; exact HSl.out⟩, HFl⟩
          case measure => simp only [intOf]; omega
        · obtain ⟨k, hk⟩ : ∃ k, m = k + 1 := ⟨m - 1, by omega⟩
          have hsub : (m : Int) - 1 = (k : Int) := by omega
          have hpos : (0 : Int) < (m : Int) := by omega
          obtain ⟨b, hb⟩ : ∃ b, b = lessO (l.getD m default) (l.getD k default) := ⟨_, rfl⟩
          have HLE : Aside0 (Calls Try.prog 60 #[.slice (some ⟨g, 0, none⟩) n c, .int .i64 m, .int .i64 k] wr fun e w' => e = .returned (.bool b) ∧ Below wr.heap.size wr w') := ⟨by rw [hb]; exact rowlessO g n c l m k wr base HRl.out (by omega) (by omega) HSl.out⟩
          have HB := Aside0.mk hb
          have HK := Aside0.mk hk
          have HSWL : Aside0 (∀ W, kPO.R 54 W base (fun _ => True) (.slice (some ⟨g, 0, none⟩) n c) l → Calls Try.prog 61 #[.slice (some ⟨g, 0, none⟩) n c, .int .i64 m, .int .i64 k] W (IsSwap kPO 54 W base g n c (sw l k))) := ⟨fun W h => swap61_calls g n c l m k W base h (by omega) hk⟩
          have HM1 : Aside0 (k + 1 < l.length) := ⟨by have := (Kd.R_reads' HRl.out).1; omega⟩
          clear hb
          cases b
          · have HE : Aside0 (l = srt lessO (i + 1) ys) := ⟨by rw [← HBl.out, HK.out]; exact (bub_no (by rw [← HK.out]; exact HB.out.symm)).symm⟩
            clear hk
            go_wp2_with (first
              | (go_at_call 60; (with_reducible refine HLE.out.mono ?_); rintro e2 w2 ⟨rfl, hb2⟩; have HB2 := Aside0.mk hb2; clear hb2)
              | fail)
            go_roundw
            case rel => exact ⟨i + 1, rfl, by omega, hlt, ⟨by rw [← HE.out]; exact Kd.R_below HRl.out HB2.out⟩, ⟨by rw [← HE.out]; exact HSl.out⟩, ⟨HFl.out.trans (Fr.of_below HB2.out (R_lt HRl.out))⟩⟩
            case measure => simp only [intOf]; omega
          · have HE : Aside0 (bub lessO k (sw l k) = srt lessO (i + 1) ys) := ⟨by rw [← HBl.out, HK.out]; exact (bub_yes (by rw [← HK.out]; exact HB.out.symm)).symm⟩
            clear hk
            go_wp2_with (first
              | (go_at_call 60; (with_reducible refine HLE.out.mono ?_); rintro e2 w2 ⟨rfl, hb2⟩; have HB2 := Aside0.mk hb2; clear hb2)
              | (go_at_call 61; (with_reducible refine (HSWL.out _ (Kd.R_below HRl.out HB2.out)).mono ?_); intro e3 w3 hq; unfold IsSwap at hq; obtain ⟨rfl, hR3, hF3⟩ := hq; have HR3 := Aside0.mk hR3; have HF3 := Aside0.mk hF3; clear hR3 hF3)
              | fail)
            go_roundw
            case rel => exact ⟨k, _, rfl, by have := HK.out; omega, HR3, HE, ⟨fun y hy => HSl.out y (sw_mem HM1.out hy)⟩, ⟨(HFl.out.trans (Fr.of_below HB2.out (R_lt HRl.out))).trans HF3.out⟩⟩
            case measure => simp only [intOf]; have := HK.out; omega
    · obtain rfl : i = n := by omega
      go_wp2_with fail
      go_end0
      exact ⟨rfl, HR.out, HF.out⟩
end Go.Proofs.Ytpggphjnghhmeaa.Srt

