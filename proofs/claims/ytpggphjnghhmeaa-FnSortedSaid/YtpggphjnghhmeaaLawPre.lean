/-
  The law FnSorted: its size's guard in plain words.
-/
import Derived.Test.YtpggphjnghhmeaaSameOuts
import Derived.Test.YtpggphjnghhmeaaSameWalk
import Derived.Test.YtpggphjnghhmeaaInsWalk
import Derived.Test.YtpggphjnghhmeaaSortedWalk
namespace Go.Proofs.Ytpggphjnghhmeaa.Srt
open Go.RowKit Go.Proofs.Ytpggphjnghhmeaa.Hand Go.Proofs.Ytpggphjnghhmeaa.PFnSorted Go.Proofs.YtpggphjnghhmeaaW.PrintWords Go.Proofs.YtpggphjnghhmeaaW.PrintLast Go.Proofs.YtpggphjnghhmeaaW.PrintMore

theorem w64' {x : Int} (h1 : -9223372036854775808 ≤ x) (h2 : x ≤ 9223372036854775807) : wrap64 x = x := by unfold wrap64; omega
theorem rd_row (pre : List S27) (x : S27) (post : List S27) (i : Int) (h : i = pre.length) : rd_T27 (pre ++ x :: post) i = x := by
  subst h; simp [rd_T27]
def allTo (m : Nat) (xs : List S27) : Bool := xs.all fun b => decide (b.f1.length ≤ m)
section
variable (xs : List S27) (hl : xs.length ≤ 9223372036854775807)
include hl
theorem zz_l0 : ∀ (rest done : List S27), xs = done ++ rest → Ev (fun k => laws_zzFits3.l0 k xs (xs.length : Int) (done.length : Int)) (allTo 2147483647 rest) := by
  intro rest
  induction rest with
  | nil =>
    intro done hd
    refine Ev.step (f := fun _ => some _) (fun k => ?_) (Ev.now _)
    have hdl : xs.length = done.length := by rw [hd]; simp
    simp only [laws_zzFits3.l0]
    rw [if_neg (by omega)]
    simp [allTo]
  | cons x rest ih =>
    intro done hd
    have hdl : done.length < xs.length := by rw [hd]; simp
    have hrd : rd_T27 xs (done.length : Int) = x := by rw [hd]; exact rd_row done x rest _ rfl
    by_cases h : x.f1.length ≤ 2147483647
    · have := ih (done ++ [x]) (by rw [hd]; simp)
      have e : allTo 2147483647 (x :: rest) = allTo 2147483647 rest := by simp [allTo, h]
      rw [e]
      refine Ev.step (fun k => ?_) this
      simp only [laws_zzFits3.l0]
      rw [hrd, if_pos (by omega), if_pos (by omega), if_pos (by omega), w64' (by omega) (by omega)]
      unfold laws_zzFits4.f
      rw [if_neg (by omega)]
      simp
    · have e : allTo 2147483647 (x :: rest) = false := by simp [allTo, h]
      rw [e]
      refine Ev.step (f := fun _ => some _) (fun k => ?_) (Ev.now _)
      simp only [laws_zzFits3.l0]
      rw [hrd, if_pos (by omega), if_pos (by omega), if_pos (by omega)]
      unfold laws_zzFits4.f
      rw [if_pos (by omega)]
      simp
theorem zz_is : ∃ k b, laws_zzFits3.f k xs = some b := by
  by_cases h : (xs.length : Int) > 2147483647
  · exact ⟨0, false, by unfold laws_zzFits3.f; rw [if_pos h]⟩
  · obtain ⟨k, hk⟩ := (zz_l0 xs hl xs [] rfl).rounds
    exact ⟨k, _, by unfold laws_zzFits3.f; rw [if_neg h]; exact hk⟩
end
set_option maxRecDepth 100000 in
set_option maxHeartbeats 16000000 in
theorem law_calls (A1 : Option Addr) (n1 c1 : Nat) (I : List In40) (A2 : Option Addr) (n2 c2 : Nat) (O : List S27) (w : World) (hI : Kd.C kIn w A1 n1 I) (hO : Kd.C k27 w A2 n2 O) (hc2 : n2 ≤ c2) (hb : bytesO O) :
    Calls Try.prog 3 #[.slice A1 n1 c1, .slice A2 n2 c2] w fun e w' => e = .returned (.bool true) ∧ Below w.heap.size w w' := by
  have hol : O.length = n2 := hO.1
  have hm1 : n1 ≤ 9223372036854775807 := hI.2.1
  have hm2 : n2 ≤ 9223372036854775807 := hO.2.1
  obtain ⟨kz, bz, hz⟩ := zz_is O (by omega)
  have HZ : Aside0 (Calls Try.prog 4 #[.slice A2 n2 c2] w fun e w' => e = .returned (.bool bz) ∧ Below w.heap.size w w') := ⟨by
    have h := laws_zzFits3.calls kz A2 c2 O bz w (by rw [hol]; exact hO) (by rw [hol]; exact hc2) hz
    rwa [hol] at h⟩
  have HI := Aside0.mk hI
  have HO := Aside0.mk hO
  have HOL := Aside0.mk hol
  have HIL : Aside0 (I.length = n1) := ⟨hI.1⟩
  have HBO := Aside0.mk hb
  have HB0 := Aside0.mk (Below.refl w.heap.size w)
  clear hI hO hol hb hz hc2
  by_cases hbig : 2147483647 < n1
  · have hbi : (2147483647 : Int) < (n1 : Int) := by omega
    go_enter Try.func3, Try.ntmps3
    go_wp2_with fail
    exact bodyPost_ret (results_tmp rfl _ _ _) rfl ⟨rfl, HB0.out⟩
  have hbi : ¬ (2147483647 : Int) < (n1 : Int) := by omega
  cases bz
  · go_enter Try.func3, Try.ntmps3
    go_wp2_with (first
      | (go_at_call 4; (with_reducible refine HZ.out.mono ?_); rintro e1 w1 ⟨rfl, hb1⟩; have HW1 := Aside0.mk hb1; clear hb1)
      | fail)
    exact bodyPost_ret (results_tmp rfl _ _ _) rfl ⟨rfl, HW1.out⟩
  by_cases h12 : 12 < n1 ∨ 12 < n2
  · by_cases h1 : 12 < n1
    · have h1i : (12 : Int) < (n1 : Int) := by omega
      go_enter Try.func3, Try.ntmps3
      go_wp2_with (first
        | (go_at_call 4; (with_reducible refine HZ.out.mono ?_); rintro e1 w1 ⟨rfl, hb1⟩; have HW1 := Aside0.mk hb1; clear hb1)
        | fail)
      exact bodyPost_ret (results_tmp rfl _ _ _) rfl ⟨rfl, HW1.out⟩
    · have h1i : ¬ (12 : Int) < (n1 : Int) := by omega
      have h2i : (12 : Int) < (n2 : Int) := by omega
      go_enter Try.func3, Try.ntmps3
      go_wp2_with (first
        | (go_at_call 4; (with_reducible refine HZ.out.mono ?_); rintro e1 w1 ⟨rfl, hb1⟩; have HW1 := Aside0.mk hb1; clear hb1)
        | fail)
      exact bodyPost_ret (results_tmp rfl _ _ _) rfl ⟨rfl, HW1.out⟩
  have h1 : n1 ≤ 12 := by omega
  have h2 : n2 ≤ 12 := by omega
  clear h12 hbig
  have h1i : ¬ (12 : Int) < (n1 : Int) := by omega
  have h2i : ¬ (12 : Int) < (n2 : Int) := by omega
  go_enter Try.func3, Try.ntmps3
  go_wp2_with (first
    | (go_at_call 4; (with_reducible refine HZ.out.mono ?_); rintro e1 w1 ⟨rfl, hb1⟩; have HW1 := Aside0.mk hb1; clear hb1)
    | fail)
  go_loopw [31] (fun v31 wr => ∃ j : Nat, v31 = .int .i64 j ∧ j ≤ n2 ∧ Aside0 (∀ i, i < j → (O.getD i default).f1.length ≤ 100) ∧ Aside0 (Below w.heap.size w wr)) (fun v31 _ => n2 - (intOf v31).toNat)
  case atStart => exact ⟨0, rfl, Nat.zero_le _, ⟨fun i hi => absurd hi (Nat.not_lt_zero _)⟩, HW1⟩
  case round =>
    obtain ⟨j, rfl, hj, HA, HBr⟩ := hrel
    clear HW1 HZ HB0
    by_cases hlt : j < n2
    · obtain ⟨ad, A6, c6, e1, q0, q1, hl6, hC6⟩ := at_T27 (Kd.C_below HO.out HBr.out) (j : Int) (by omega) (by omega)
      subst e1
      rw [Int.toNat_natCast] at q0 q1
      have hjl : (rd_T27 O (j : Int)) = O.getD j default := rfl
      rw [hjl] at q0 q1
      have HQ : Aside0 ((O.getD j default).f1.length ≤ 100 → ∀ i, i < j + 1 → (O.getD i default).f1.length ≤ 100) := ⟨fun h i hi => by
        by_cases e : i = j
        · subst e; exact h
        · exact HA.out i (by omega)⟩
      have i0 : (0 : Int) ≤ (j : Int) := by omega
      have i1 : (j : Int) < (n2 : Int) := by omega
      clear hl6 hC6 hjl
      generalize (O.getD j default).f1.length = xl at q1 HQ
      generalize (O.getD j default).f0 = f at q0
      by_cases hxl : 100 < xl
      · have hxi : (100 : Int) < (xl : Int) := by omega
        go_wp2_with (first
          | ((with_reducible refine gate_dst (N := 6) rfl ?_); refine box_event ?hg (N := 6) ?hd (cs := #[.int .i64 0, .slice none 0 0]) (t := 27) ?hr ?_; (case hd => rfl); (case hg => rfl); (case hr => first | (go_simp; done) | (go_simp; rfl)); intro g9 hg w2 hbox hb2; have HZ2 := Aside0.mk hbox; have HB2 := Aside0.mk hb2; have HG9 : Aside0 (g9 = wr.heap.size) := ⟨hg⟩; clear hg hbox hb2)
          | ((with_reducible refine gate_store (t := 27) (p := 6) rfl ?_); refine out_store rfl rfl rfl HZ2.out HB2.out (Nat.le_of_eq HG9.out.symm) rfl rfl ?_; intro w3 hX hB; have p0 : w3.cell? ⟨g9, 0, none⟩ = some (.int .i64 f) := (by rw [blk_cell hX]; rfl); have p1 : w3.cell? ⟨g9, 1, none⟩ = some (.slice A6 xl c6) := (by rw [blk_cell hX]; rfl); have HB3 := Aside0.mk (below_step HBr.out hB); clear hX hB q0 q1)
          | fail)
        exact bodyPost_ret (results_tmp rfl _ _ _) rfl ⟨rfl, HB3.out⟩
      have hxi : ¬ (100 : Int) < (xl : Int) := by omega
      by_cases hneg : f < 0
      · go_wp2_with (first
          | ((with_reducible refine gate_dst (N := 6) rfl ?_); refine box_event ?hg (N := 6) ?hd (cs := #[.int .i64 0, .slice none 0 0]) (t := 27) ?hr ?_; (case hd => rfl); (case hg => rfl); (case hr => first | (go_simp; done) | (go_simp; rfl)); intro g9 hg w2 hbox hb2; have HZ2 := Aside0.mk hbox; have HB2 := Aside0.mk hb2; have HG9 : Aside0 (g9 = wr.heap.size) := ⟨hg⟩; clear hg hbox hb2)
          | ((with_reducible refine gate_store (t := 27) (p := 6) rfl ?_); refine out_store rfl rfl rfl HZ2.out HB2.out (Nat.le_of_eq HG9.out.symm) rfl rfl ?_; intro w3 hX hB; have p0 : w3.cell? ⟨g9, 0, none⟩ = some (.int .i64 f) := (by rw [blk_cell hX]; rfl); have p1 : w3.cell? ⟨g9, 1, none⟩ = some (.slice A6 xl c6) := (by rw [blk_cell hX]; rfl); have HB3 := Aside0.mk (below_step HBr.out hB); clear hX hB q0 q1)
          | fail)
        exact bodyPost_ret (results_tmp rfl _ _ _) rfl ⟨rfl, HB3.out⟩
      · have HA2 : Aside0 (∀ i, i < j + 1 → (O.getD i default).f1.length ≤ 100) := ⟨HQ.out (by omega)⟩
        go_wp2_with (first
          | ((with_reducible refine gate_dst (N := 6) rfl ?_); refine box_event ?hg (N := 6) ?hd (cs := #[.int .i64 0, .slice none 0 0]) (t := 27) ?hr ?_; (case hd => rfl); (case hg => rfl); (case hr => first | (go_simp; done) | (go_simp; rfl)); intro g9 hg w2 hbox hb2; have HZ2 := Aside0.mk hbox; have HB2 := Aside0.mk hb2; have HG9 : Aside0 (g9 = wr.heap.size) := ⟨hg⟩; clear hg hbox hb2)
          | ((with_reducible refine gate_store (t := 27) (p := 6) rfl ?_); refine out_store rfl rfl rfl HZ2.out HB2.out (Nat.le_of_eq HG9.out.symm) rfl rfl ?_; intro w3 hX hB; have p0 : w3.cell? ⟨g9, 0, none⟩ = some (.int .i64 f) := (by rw [blk_cell hX]; rfl); have p1 : w3.cell? ⟨g9, 1, none⟩ = some (.slice A6 xl c6) := (by rw [blk_cell hX]; rfl); have HB3 := Aside0.mk (below_step HBr.out hB); clear hX hB q0 q1)
          | fail)
        go_roundw
        case rel => exact ⟨j + 1, rfl, hlt, HA2, HB3⟩
        case measure => simp only [intOf]; omega
    · obtain rfl : j = n2 := by omega
      have hsm : small O := fun y hy => by
        obtain ⟨i, hi, rfl⟩ := List.getElem_of_mem hy
        have := HA.out i (by rw [← HOL.out]; exact hi)
        rw [List.getD_eq_getElem?_getD, List.getElem?_eq_getElem hi] at this
        have h3 : O[i].f1.length ≤ 100 := this
        omega
      obtain ⟨w0, rfl⟩ : ∃ w0, w0 = wr := ⟨wr, rfl⟩
      have fixI : srt lessI n1 I = I ↔ adj lessI I n1 := by have h := srt_fix lessI lessI_asym I; rwa [HIL.out] at h
      have fixO : srt lessO j O = O ↔ adj lessO O j := by have h := srt_fix lessO lessO_asym O; rwa [HOL.out] at h
      obtain ⟨d1, hd1⟩ : ∃ d1, d1 = decide (I = srt lessI n1 I) := ⟨_, rfl⟩
      obtain ⟨d2, hd2⟩ : ∃ d2 : Bool, d2 = true ↔ O = srt lessO j O := by
        by_cases h : O = srt lessO j O
        · exact ⟨true, fun _ => h, fun _ => rfl⟩
        · exact ⟨false, fun e => (by cases e), fun e => absurd e h⟩
      have hwas : (d1 && d2) = true ↔ (adj lessI I n1 ∧ adj lessO O j) := by
        rw [Bool.and_eq_true, hd1, hd2, ← fixI, ← fixO]
        constructor
        · rintro ⟨a, b⟩; exact ⟨(of_decide_eq_true a).symm, b.symm⟩
        · rintro ⟨a, b⟩; exact ⟨decide_eq_true a.symm, b.symm⟩
      have hbs : bytesO (srt lessO j O) := fun y hy => HBO.out y (srt_mem lessO O j (by rw [HOL.out]; exact Nat.le_refl _) y hy)
      have HC5 : Aside0 (∀ W, Below w.heap.size w W → Calls Try.prog 5 #[.slice A1 n1 c1] W fun e w' => ∃ A' c', e = .returned (.slice A' n1 c') ∧ n1 ≤ c' ∧ Kd.C kIn w' A' n1 (srt lessI n1 I) ∧ Below W.heap.size W w') := ⟨fun W hW => sortedIns_calls A1 n1 c1 I W (Kd.C_below HI.out hW) h1⟩
      have HC6 : Aside0 (∀ W, Below w.heap.size w W → Calls Try.prog 6 #[.slice A2 j c2] W fun e w' => ∃ A' c', e = .returned (.slice A' j c') ∧ j ≤ c' ∧ Kd.C k27 w' A' j (srt lessO j O) ∧ Below W.heap.size W w') := ⟨fun W hW => sortedOuts_calls A2 j c2 O W (Kd.C_below HO.out hW) h2 HBO.out⟩
      have HC7 : Aside0 (∀ W, Below w.heap.size w W → Calls Try.prog 7 #[.slice A1 n1 c1, .slice A2 j c2] W (IsSorted W n1 (srt lessI n1 I) j (srt lessO j O) (d1 && d2))) := ⟨fun W hW => sorted_calls A1 n1 c1 I A2 j c2 O W (Kd.C_below HI.out hW) h1 (Kd.C_below HO.out hW) h2 hsm _ hwas⟩
      have HS1 : Aside0 (∀ A c A' c' W, Kd.C kIn W A n1 (srt lessI n1 I) → Kd.C kIn W A' n1 (srt lessI n1 I) → Calls Try.prog 8 #[.slice A n1 c, .slice A' n1 c'] W fun e w' => e = .returned (.bool true) ∧ Below W.heap.size W w') := ⟨fun A c A' c' W a b => by have h := sameIns_calls A n1 c _ A' n1 c' _ W a b; rwa [decide_eq_true rfl] at h⟩
      have HS2 : Aside0 (∀ A c A' c' W, Kd.C k27 W A j (srt lessO j O) → Kd.C k27 W A' j (srt lessO j O) → Calls Try.prog 9 #[.slice A j c, .slice A' j c'] W fun e w' => e = .returned (.bool true) ∧ Below W.heap.size W w') := ⟨fun A c A' c' W a b => sameOuts_calls A j c _ A' j c' _ W a b hbs hbs true ⟨fun _ => rfl, fun _ => rfl⟩⟩
      have HS3 : Aside0 (∀ A c W, Below w.heap.size w W → Kd.C kIn W A n1 (srt lessI n1 I) → Calls Try.prog 8 #[.slice A1 n1 c1, .slice A n1 c] W fun e w' => e = .returned (.bool d1) ∧ Below W.heap.size W w') := ⟨fun A c W hW a => by rw [hd1]; exact sameIns_calls A1 n1 c1 _ A n1 c _ W (Kd.C_below HI.out hW) a⟩
      have HS4 : Aside0 (∀ A c W, Below w.heap.size w W → Kd.C k27 W A j (srt lessO j O) → Calls Try.prog 9 #[.slice A2 j c2, .slice A j c] W fun e w' => e = .returned (.bool d2) ∧ Below W.heap.size W w') := ⟨fun A c W hW a => sameOuts_calls A2 j c2 _ A j c _ W (Kd.C_below HO.out hW) a HBO.out hbs d2 hd2⟩
      clear hsm fixI fixO hd1 hd2 hwas hbs
      generalize srt lessI n1 I = I' at HC5 HC7 HS1 HS3
      generalize srt lessO j O = O' at HC6 HC7 HS2 HS4
      clear HA
      cases d1 <;> cases d2
      all_goals
        go_wp2_with (first
          | (go_at_call 5; (with_reducible refine (HC5.out _ HBr.out).mono ?_); rintro e5 w5 ⟨A5, c5, rfl, hc5, hC5, hb5⟩; have HQ5 := Aside0.mk hC5; have HB5 := Aside0.mk (below_step HBr.out hb5); clear hC5 hb5 hc5)
          | (go_at_call 6; (with_reducible refine (HC6.out _ HB5.out).mono ?_); rintro e6 w6 ⟨A6, c6, rfl, hc6, hC6, hb6⟩; have HQ6 := Aside0.mk hC6; have HQ56 := Aside0.mk (Kd.C_below HQ5.out hb6); have HB6 := Aside0.mk (below_step HB5.out hb6); clear hC6 hb6 hc6)
          | (go_at_call 7; (with_reducible refine (HC7.out _ HB6.out).mono ?_); intro e7 w7 hq; unfold IsSorted at hq; obtain ⟨A7, c7, A8, c8, rfl, hC7, hC8, hc8, hb7⟩ := hq; have HQ7 := Aside0.mk hC7; have HQ8 := Aside0.mk hC8; have HQ57 := Aside0.mk (Kd.C_below HQ56.out hb7); have HQ67 := Aside0.mk (Kd.C_below HQ6.out hb7); have HB7 := Aside0.mk (below_step HB6.out hb7); clear hC7 hC8 hc8 hb7)
          | (go_at_call 8; (with_reducible refine (HS1.out A7 c7 A5 c5 _ HQ7.out HQ57.out).mono ?_); rintro e8 w8 ⟨rfl, hb8⟩; have HF8 := Aside0.mk hb8; have HB8 := Aside0.mk (below_step HB7.out hb8); clear hb8)
          | (go_at_call 9; (with_reducible refine (HS2.out A8 c8 A6 c6 _ (Kd.C_below HQ8.out HF8.out) (Kd.C_below HQ67.out HF8.out)).mono ?_); rintro e9 w9 ⟨rfl, hb9⟩; have HF9 := Aside0.mk (below_step HF8.out hb9); have HB9 := Aside0.mk (below_step HB8.out hb9); clear hb9)
          | (go_at_call 8; (with_reducible refine (HS3.out A5 c5 _ HB9.out (Kd.C_below HQ57.out HF9.out)).mono ?_); rintro e10 w10 ⟨rfl, hb10⟩; have HF10 := Aside0.mk (below_step HF9.out hb10); have HB10 := Aside0.mk (below_step HB9.out hb10); clear hb10)
          | (go_at_call 9; (with_reducible refine (HS4.out A6 c6 _ HB10.out (Kd.C_below HQ67.out HF10.out)).mono ?_); rintro e11 w11 ⟨rfl, hb11⟩; have HB11 := Aside0.mk (below_step HB10.out hb11); clear hb11)
          | fail)
        first
        | exact bodyPost_ret (results_tmp rfl _ _ _) rfl ⟨rfl, HB11.out⟩
        | exact bodyPost_ret (results_tmp rfl _ _ _) rfl ⟨rfl, HB10.out⟩
end Go.Proofs.Ytpggphjnghhmeaa.Srt
