/-
  sort.pdqsort of at most twelve, sort.Sort, sort.IsSorted.
-/
import Derived.Test.YtpggphjnghhmeaaLenWalk
namespace Go.Proofs.Ytpggphjnghhmeaa.Srt
open Go.RowKit Go.Proofs.Ytpggphjnghhmeaa.Hand Go.Proofs.Ytpggphjnghhmeaa.PFnSorted Go.Proofs.YtpggphjnghhmeaaW.PrintWords Go.Proofs.YtpggphjnghhmeaaW.PrintLast Go.Proofs.YtpggphjnghhmeaaW.PrintMore

theorem R_some {α : Type} {d : Kd α} {e : Nat} {w : World} {base : Nat} {ok : Nat → Prop} {A : Option Addr} {n c : Nat} {ys : List α} (h : d.R e w base ok (.slice A n c) ys) (hn : 0 < n) : ∃ g, A = some ⟨g, 0, none⟩ := by
  obtain ⟨_, inner, ho, _⟩ := h
  obtain ⟨_, ⟨hv, _⟩ | ⟨g, cap, cur, hv, _⟩⟩ := ho
  · injection hv with _ e2 _; omega
  · injection hv with e1 _ _; exact ⟨g, e1⟩
def IsSort {α : Type} [Inhabited α] (d : Kd α) (e : Nat) (w : World) (base : Nat) (v : Value) (ys : List α) (en : Ending) (w' : World) : Prop :=
  en = .returned (.tuple #[]) ∧ d.R e w' base (fun _ => True) v ys ∧ (∀ B w0, B ≤ base → Below B w0 w → Below B w0 w') ∧ (∀ k, k < w.heap.size → some k ≠ v.ownBlock → w'.heap[k]? = w.heap[k]?) ∧ w.heap.size ≤ w'.heap.size
def IsTest (w : World) (p : Prop) (en : Ending) (w' : World) : Prop := ∃ b, en = .returned (.bool b) ∧ (b = true ↔ p) ∧ Below w.heap.size w w'

set_option maxRecDepth 100000 in
set_option maxHeartbeats 8000000 in
theorem pdqI_calls (g n c : Nat) (ys : List In40) (w : World) (base : Nat) (lim : Int) (hR : kPI.R 50 w base (fun _ => True) (.slice (some ⟨g, 0, none⟩) n c) ys) (hn2 : 2 ≤ n) (hn : n ≤ 12) (hs : any ys) :
    Calls Try.prog 22 #[.iface 59 (.slice (some ⟨g, 0, none⟩) n c), .int .i64 0, .int .i64 n, .int .i64 lim] w (IsSwap kPI 50 w base g n c (srt lessI n ys)) := by
  have HI := Aside0.mk (isortI_calls g n c ys w base hR hn2 hn hs)
  clear hR hs
  go_enter Try.func22, Try.ntmps22
  go_wp2_with fail
  go_loopw [1, 2, 3] (fun v1 v2 v3 wr => v1 = .int .i64 0 ∧ v2 = .int .i64 n ∧ v3 = .int .i64 lim ∧ wr = w) (fun _ _ _ _ => 0)
  case atStart => exact ⟨rfl, rfl, rfl, rfl⟩
  case round =>
    obtain ⟨rfl, rfl, rfl, rfl⟩ := hrel
    go_wp2_with (first | (go_at_call 25; (with_reducible refine HI.out.mono ?_); intro e2 w2 hq; unfold IsSwap at hq; obtain ⟨rfl, hR3, hF3⟩ := hq; have HR3 := Aside0.mk hR3; have HF3 := Aside0.mk hF3; clear hR3 hF3) | fail)
    go_end0
    exact ⟨rfl, HR3.out, HF3.out⟩
set_option maxRecDepth 100000 in
set_option maxHeartbeats 8000000 in
theorem sortI_calls (A : Option Addr) (n c : Nat) (ys : List In40) (w : World) (base : Nat) (hR : kPI.R 50 w base (fun _ => True) (.slice A n c) ys) (hn : n ≤ 12) (hs : any ys) :
    Calls Try.prog 20 #[.iface 59 (.slice A n c)] w (IsSort kPI 50 w base (.slice A n c) (srt lessI n ys)) := by
  by_cases hn2 : 2 ≤ n
  · obtain ⟨g, rfl⟩ := R_some hR (by omega)
    have hgb := (R_form hR).2.1
    have HP : Aside0 (∀ lim, Calls Try.prog 22 #[.iface 59 (.slice (some ⟨g, 0, none⟩) n c), .int .i64 0, .int .i64 n, .int .i64 lim] w (IsSwap kPI 50 w base g n c (srt lessI n ys))) := ⟨fun lim => pdqI_calls g n c ys w base lim hR hn2 hn hs⟩
    have HL := Aside0.mk (len_calls n hn2 hn)
    have HG := Aside0.mk hgb
    have hml := lenI_is (some ⟨g, 0, none⟩) n c
    have e64 : IntKind.u64.wrap (n : Int) = n := by rw [IntKind.wrap_u64]; omega
    have e64' : (n : Int) % 18446744073709551616 = n := by omega
    clear hR hs hgb
    go_enter Try.func20, Try.ntmps20
    go_wp2_with (first
      | (go_at_call 55; refine (len55_calls _ n c _).mono ?_; rintro e1 w1 ⟨rfl, rfl⟩)
      | (go_at_call 21; refine (HL.out _).mono ?_; rintro e1 w1 ⟨⟨r, rfl⟩, rfl⟩)
      | (go_at_call 22; (with_reducible refine (HP.out _).mono ?_); intro e2 w2 hq; unfold IsSwap at hq; obtain ⟨rfl, hR3, hF3⟩ := hq; have HR3 := Aside0.mk hR3; have HF3 := Aside0.mk hF3; clear hR3 hF3)
      | fail)
    go_end0
    exact ⟨rfl, HR3.out, fun B w0 hB h => HF3.out.bel B w0 (Nat.le_trans hB HG.out) h, fun k hk hne => HF3.out.keep k hk (fun e => hne (by rw [e]; rfl)), HF3.out.size⟩
  · have hml := lenI_is A n c
    have HR : Aside0 (kPI.R 50 w base (fun _ => True) (.slice A n c) (srt lessI n ys)) := ⟨by
      have : n = 0 ∨ n = 1 := by omega
      rcases this with rfl | rfl
      · exact hR
      · exact hR⟩
    have hn1 : (n : Int) ≤ 1 := by omega
    clear hR hs
    go_enter Try.func20, Try.ntmps20
    go_wp2_with (first
      | (go_at_call 55; refine (len55_calls _ n c _).mono ?_; rintro e1 w1 ⟨rfl, rfl⟩)
      | fail)
    go_end0
    exact ⟨rfl, HR.out, fun _ _ _ h => h, fun _ _ _ => rfl, Nat.le_refl _⟩
set_option maxRecDepth 100000 in
set_option maxHeartbeats 8000000 in
theorem issortedI_calls (A : Option Addr) (n c : Nat) (ys : List In40) (w : World) (hC : kPI.C w A n ys) (hn : n ≤ 12) (hs : any ys) :
    Calls Try.prog 18 #[.iface 59 (.slice A n c)] w (IsTest w (adj lessI ys n)) := by
  have hml := lenI_is A n c
  have hmL := lessI_is A n c
  have HLE : Aside0 (∀ W (i j : Nat), Below w.heap.size w W → i < n → j < n → Calls Try.prog 56 #[.slice A n c, .int .i64 i, .int .i64 j] W fun e w' => e = .returned (.bool (lessI (ys.getD i default) (ys.getD j default))) ∧ Below W.heap.size W w') := ⟨fun W i j hb hi hj => lessI_calls A n c ys i j W (Kd.C_below hC hb) hi hj⟩
  have HB0 := Aside0.mk (Below.refl w.heap.size w)
  clear hC hs
  go_enter Try.func18, Try.ntmps18
  go_wp2_with (first
    | (go_at_call 55; refine (len55_calls _ n c _).mono ?_; rintro e1 w1 ⟨rfl, rfl⟩)
    | fail)
  go_loopw [4] (fun v4 wr => ∃ i : Int, v4 = .int .i64 i ∧ -1 ≤ i ∧ i ≤ (n : Int) - 1 ∧ Aside0 (∀ j : Nat, i ≤ j → j + 1 < n → lessI (ys.getD (j + 1) default) (ys.getD j default) = false) ∧ Aside0 (Below w.heap.size w wr)) (fun v4 _ => (intOf v4).toNat)
  case atStart => exact ⟨(n : Int) - 1, rfl, by omega, by omega, ⟨fun j h1 h2 => by omega⟩, HB0⟩
  case round =>
    obtain ⟨i, rfl, hi1, hi2, HA, HB⟩ := hrel
    clear HB0
    by_cases hpos : 0 < i
    · obtain ⟨m, rfl⟩ := Int.eq_ofNat_of_zero_le (show 0 ≤ i by omega)
      obtain ⟨k, hk⟩ : ∃ k, m = k + 1 := ⟨m - 1, by omega⟩
      have hsub : (m : Int) - 1 = (k : Int) := by omega
      obtain ⟨b, hb⟩ : ∃ b, b = lessI (ys.getD m default) (ys.getD k default) := ⟨_, rfl⟩
      have HL1 : Aside0 (Calls Try.prog 56 #[.slice A n c, .int .i64 m, .int .i64 k] wr fun e w' => e = .returned (.bool b) ∧ Below wr.heap.size wr w') := ⟨by rw [hb]; exact HLE.out wr m k HB.out (by omega) (by omega)⟩
      have HK := Aside0.mk hk
      have HBQ := Aside0.mk hb
      have hmn : m < n := by omega
      clear hb hk
      cases b
      · go_wp2_with (first
          | (go_at_call 56; (with_reducible refine HL1.out.mono ?_); rintro e2 w2 ⟨rfl, hb2⟩; have HB2 := Aside0.mk (below_step HB.out hb2); clear hb2)
          | fail)
        go_roundw
        case rel => exact ⟨k, rfl, by omega, by have := HK.out; omega, ⟨fun j h1 h2 => by
          by_cases e : j = k
          · subst e; rw [← HK.out]; exact HBQ.out.symm
          · exact HA.out j (by have := HK.out; omega) h2⟩, HB2⟩
        case measure => simp only [intOf]; have := HK.out; omega
      · have HN : Aside0 (¬ adj lessI ys n) := ⟨fun h => by have h1 := h k (by have := HK.out; omega); rw [← HK.out, ← HBQ.out] at h1; cases h1⟩
        go_wp2_with (first
          | (go_at_call 56; (with_reducible refine HL1.out.mono ?_); rintro e2 w2 ⟨rfl, hb2⟩; have HB2 := Aside0.mk (below_step HB.out hb2); clear hb2)
          | fail)
        exact bodyPost_ret (results_tmp rfl _ _ _) rfl ⟨false, rfl, ⟨fun h => (by cases h), fun h => absurd h HN.out⟩, HB2.out⟩
    · have HY : Aside0 (adj lessI ys n) := ⟨fun j hj => HA.out j (by omega) hj⟩
      go_wp2_with fail
      exact bodyPost_ret (results_tmp rfl _ _ _) rfl ⟨true, rfl, ⟨fun _ => HY.out, fun _ => rfl⟩, HB.out⟩

set_option maxRecDepth 100000 in
set_option maxHeartbeats 8000000 in
theorem pdqO_calls (g n c : Nat) (ys : List S27) (w : World) (base : Nat) (lim : Int) (hR : kPO.R 54 w base (fun _ => True) (.slice (some ⟨g, 0, none⟩) n c) ys) (hn2 : 2 ≤ n) (hn : n ≤ 12) (hs : small ys) :
    Calls Try.prog 22 #[.iface 60 (.slice (some ⟨g, 0, none⟩) n c), .int .i64 0, .int .i64 n, .int .i64 lim] w (IsSwap kPO 54 w base g n c (srt lessO n ys)) := by
  have HI := Aside0.mk (isortO_calls g n c ys w base hR hn2 hn hs)
  clear hR hs
  go_enter Try.func22, Try.ntmps22
  go_wp2_with fail
  go_loopw [1, 2, 3] (fun v1 v2 v3 wr => v1 = .int .i64 0 ∧ v2 = .int .i64 n ∧ v3 = .int .i64 lim ∧ wr = w) (fun _ _ _ _ => 0)
  case atStart => exact ⟨rfl, rfl, rfl, rfl⟩
  case round =>
    obtain ⟨rfl, rfl, rfl, rfl⟩ := hrel
    go_wp2_with (first | (go_at_call 25; (with_reducible refine HI.out.mono ?_); intro e2 w2 hq; unfold IsSwap at hq; obtain ⟨rfl, hR3, hF3⟩ := hq; have HR3 := Aside0.mk hR3; have HF3 := Aside0.mk hF3; clear hR3 hF3) | fail)
    go_end0
    exact ⟨rfl, HR3.out, HF3.out⟩
set_option maxRecDepth 100000 in
set_option maxHeartbeats 8000000 in
theorem sortO_calls (A : Option Addr) (n c : Nat) (ys : List S27) (w : World) (base : Nat) (hR : kPO.R 54 w base (fun _ => True) (.slice A n c) ys) (hn : n ≤ 12) (hs : small ys) :
    Calls Try.prog 20 #[.iface 60 (.slice A n c)] w (IsSort kPO 54 w base (.slice A n c) (srt lessO n ys)) := by
  by_cases hn2 : 2 ≤ n
  · obtain ⟨g, rfl⟩ := R_some hR (by omega)
    have hgb := (R_form hR).2.1
    have HP : Aside0 (∀ lim, Calls Try.prog 22 #[.iface 60 (.slice (some ⟨g, 0, none⟩) n c), .int .i64 0, .int .i64 n, .int .i64 lim] w (IsSwap kPO 54 w base g n c (srt lessO n ys))) := ⟨fun lim => pdqO_calls g n c ys w base lim hR hn2 hn hs⟩
    have HL := Aside0.mk (len_calls n hn2 hn)
    have HG := Aside0.mk hgb
    have hml := lenO_is (some ⟨g, 0, none⟩) n c
    have e64 : IntKind.u64.wrap (n : Int) = n := by rw [IntKind.wrap_u64]; omega
    have e64' : (n : Int) % 18446744073709551616 = n := by omega
    clear hR hs hgb
    go_enter Try.func20, Try.ntmps20
    go_wp2_with (first
      | (go_at_call 59; refine (len59_calls _ n c _).mono ?_; rintro e1 w1 ⟨rfl, rfl⟩)
      | (go_at_call 21; refine (HL.out _).mono ?_; rintro e1 w1 ⟨⟨r, rfl⟩, rfl⟩)
      | (go_at_call 22; (with_reducible refine (HP.out _).mono ?_); intro e2 w2 hq; unfold IsSwap at hq; obtain ⟨rfl, hR3, hF3⟩ := hq; have HR3 := Aside0.mk hR3; have HF3 := Aside0.mk hF3; clear hR3 hF3)
      | fail)
    go_end0
    exact ⟨rfl, HR3.out, fun B w0 hB h => HF3.out.bel B w0 (Nat.le_trans hB HG.out) h, fun k hk hne => HF3.out.keep k hk (fun e => hne (by rw [e]; rfl)), HF3.out.size⟩
  · have hml := lenO_is A n c
    have HR : Aside0 (kPO.R 54 w base (fun _ => True) (.slice A n c) (srt lessO n ys)) := ⟨by
      have : n = 0 ∨ n = 1 := by omega
      rcases this with rfl | rfl
      · exact hR
      · exact hR⟩
    have hn1 : (n : Int) ≤ 1 := by omega
    clear hR hs
    go_enter Try.func20, Try.ntmps20
    go_wp2_with (first
      | (go_at_call 59; refine (len59_calls _ n c _).mono ?_; rintro e1 w1 ⟨rfl, rfl⟩)
      | fail)
    go_end0
    exact ⟨rfl, HR.out, fun _ _ _ h => h, fun _ _ _ => rfl, Nat.le_refl _⟩
set_option maxRecDepth 100000 in
set_option maxHeartbeats 8000000 in
theorem issortedO_calls (A : Option Addr) (n c : Nat) (ys : List S27) (w : World) (hC : kPO.C w A n ys) (hn : n ≤ 12) (hs : small ys) :
    Calls Try.prog 18 #[.iface 60 (.slice A n c)] w (IsTest w (adj lessO ys n)) := by
  have hml := lenO_is A n c
  have hmL := lessO_is A n c
  have HLE : Aside0 (∀ W (i j : Nat), Below w.heap.size w W → i < n → j < n → Calls Try.prog 60 #[.slice A n c, .int .i64 i, .int .i64 j] W fun e w' => e = .returned (.bool (lessO (ys.getD i default) (ys.getD j default))) ∧ Below W.heap.size W w') := ⟨fun W i j hb hi hj => (lessO_calls A n c ys i j W (Kd.C_below hC hb) hi hj hs).mono fun e w' ⟨a, q, b⟩ => ⟨a, by rw [b]; exact pw_below_drewN (Below.refl _ _) q⟩⟩
  have HB0 := Aside0.mk (Below.refl w.heap.size w)
  clear hC hs
  go_enter Try.func18, Try.ntmps18
  go_wp2_with (first
    | (go_at_call 59; refine (len59_calls _ n c _).mono ?_; rintro e1 w1 ⟨rfl, rfl⟩)
    | fail)
  go_loopw [4] (fun v4 wr => ∃ i : Int, v4 = .int .i64 i ∧ -1 ≤ i ∧ i ≤ (n : Int) - 1 ∧ Aside0 (∀ j : Nat, i ≤ j → j + 1 < n → lessO (ys.getD (j + 1) default) (ys.getD j default) = false) ∧ Aside0 (Below w.heap.size w wr)) (fun v4 _ => (intOf v4).toNat)
  case atStart => exact ⟨(n : Int) - 1, rfl, by omega, by omega, ⟨fun j h1 h2 => by omega⟩, HB0⟩
  case round =>
    obtain ⟨i, rfl, hi1, hi2, HA, HB⟩ := hrel
    clear HB0
    by_cases hpos : 0 < i
    · obtain ⟨m, rfl⟩ := Int.eq_ofNat_of_zero_le (show 0 ≤ i by omega)
      obtain ⟨k, hk⟩ : ∃ k, m = k + 1 := ⟨m - 1, by omega⟩
      have hsub : (m : Int) - 1 = (k : Int) := by omega
      obtain ⟨b, hb⟩ : ∃ b, b = lessO (ys.getD m default) (ys.getD k default) := ⟨_, rfl⟩
      have HL1 : Aside0 (Calls Try.prog 60 #[.slice A n c, .int .i64 m, .int .i64 k] wr fun e w' => e = .returned (.bool b) ∧ Below wr.heap.size wr w') := ⟨by rw [hb]; exact HLE.out wr m k HB.out (by omega) (by omega)⟩
      have HK := Aside0.mk hk
      have HBQ := Aside0.mk hb
      have hmn : m < n := by omega
      clear hb hk
      cases b
      · go_wp2_with (first
          | (go_at_call 60; (with_reducible refine HL1.out.mono ?_); rintro e2 w2 ⟨rfl, hb2⟩; have HB2 := Aside0.mk (below_step HB.out hb2); clear hb2)
          | fail)
        go_roundw
        case rel => exact ⟨k, rfl, by omega, by have := HK.out; omega, ⟨fun j h1 h2 => by
          by_cases e : j = k
          · subst e; rw [← HK.out]; exact HBQ.out.symm
          · exact HA.out j (by have := HK.out; omega) h2⟩, HB2⟩
        case measure => simp only [intOf]; have := HK.out; omega
      · have HN : Aside0 (¬ adj lessO ys n) := ⟨fun h => by have h1 := h k (by have := HK.out; omega); rw [← HK.out, ← HBQ.out] at h1; cases h1⟩
        go_wp2_with (first
          | (go_at_call 60; (with_reducible refine HL1.out.mono ?_); rintro e2 w2 ⟨rfl, hb2⟩; have HB2 := Aside0.mk (below_step HB.out hb2); clear hb2)
          | fail)
        exact bodyPost_ret (results_tmp rfl _ _ _) rfl ⟨false, rfl, ⟨fun h => (by cases h), fun h => absurd h HN.out⟩, HB2.out⟩
    · have HY : Aside0 (adj lessO ys n) := ⟨fun j hj => HA.out j (by omega) hj⟩
      go_wp2_with fail
      exact bodyPost_ret (results_tmp rfl _ _ _) rfl ⟨true, rfl, ⟨fun _ => HY.out, fun _ => rfl⟩, HB.out⟩
end Go.Proofs.Ytpggphjnghhmeaa.Srt
