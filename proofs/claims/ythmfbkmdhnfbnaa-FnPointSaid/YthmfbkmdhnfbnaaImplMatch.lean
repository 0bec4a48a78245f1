/-
  impl.Matches; what the guards of the law say.
-/
import Derived.Test.YthmfbkmdhnfbnaaImplAdd
namespace Go.Proofs.Ythmfbkmdhnfbnaa.BloomW
open Go.RowKit Go.Proofs.Ythmfbkmdhnfbnaa.Hand Go.Proofs.YthmfbkmdhnfbnaaW.PrintWords Go.Proofs.YthmfbkmdhnfbnaaW.PrintLast Go.Proofs.YthmfbkmdhnfbnaaW.PrintMore Mur Blo

/-! ### The guards' plain functions -/
theorem w64' {x : Int} (h1 : -9223372036854775808 ≤ x) (h2 : x ≤ 9223372036854775807) : wrap64 x = x := by unfold wrap64; omega
theorem rd_row (pre : List (List Int)) (x : List Int) (post : List (List Int)) (i : Int) (h : i = pre.length) : PFnAdded.rd_L1 (pre ++ x :: post) i = x := by
  subst h; simp [PFnAdded.rd_L1]
def allTo (m : Nat) (xs : List (List Int)) : Bool := xs.all fun b => decide (b.length ≤ m)

section
variable (xs : List (List Int)) (hl : xs.length ≤ 9223372036854775807)
include hl
theorem small_l0 : ∀ (rest done : List (List Int)), xs = done ++ rest → Ev (fun k => PFnAdded.spec_IsSmall.l0 k xs xs (xs.length : Int) (done.length : Int)) (allTo 60 rest && decide (xs.length ≤ 20)) := by
  intro rest
  induction rest with
  | nil =>
    intro done hd
    refine Ev.step (f := fun _ => some _) (fun k => ?_) (Ev.now _)
    have hdl : xs.length = done.length := by rw [hd]; simp
    simp only [PFnAdded.spec_IsSmall.l0]
    rw [if_neg (by omega)]
    simp [allTo]
    omega
  | cons x rest ih =>
    intro done hd
    have hdl : done.length < xs.length := by rw [hd]; simp
    have hrd : PFnAdded.rd_L1 xs (done.length : Int) = x := by rw [hd]; exact rd_row done x rest _ rfl
    by_cases h : x.length ≤ 60
    · have := ih (done ++ [x]) (by rw [hd]; simp)
      have e : allTo 60 (x :: rest) = allTo 60 rest := by simp [allTo, h]
      rw [e]
      refine Ev.step (fun k => ?_) this
      simp only [PFnAdded.spec_IsSmall.l0]
      rw [hrd, if_pos (by omega), if_pos (by omega), if_pos (by omega), if_neg (by omega), w64' (by omega) (by omega)]
      simp
    · have e : allTo 60 (x :: rest) = false := by simp [allTo, h]
      rw [e, Bool.false_and]
      refine Ev.step (f := fun _ => some _) (fun k => ?_) (Ev.now _)
      simp only [PFnAdded.spec_IsSmall.l0]
      rw [hrd, if_pos (by omega), if_pos (by omega), if_pos (by omega), if_pos (by omega)]
theorem fits_l0 : ∀ (rest done : List (List Int)), xs = done ++ rest → Ev (fun k => PFnAdded.impl_fits.l0 k xs (xs.length : Int) (done.length : Int)) (allTo 100 rest) := by
  intro rest
  induction rest with
  | nil =>
    intro done hd
    refine Ev.step (f := fun _ => some _) (fun k => ?_) (Ev.now _)
    have hdl : xs.length = done.length := by rw [hd]; simp
    simp only [PFnAdded.impl_fits.l0]
    rw [if_neg (by omega)]
    simp [allTo]
  | cons x rest ih =>
    intro done hd
    have hdl : done.length < xs.length := by rw [hd]; simp
    have hrd : PFnAdded.rd_L1 xs (done.length : Int) = x := by rw [hd]; exact rd_row done x rest _ rfl
    by_cases h : x.length ≤ 100
    · have := ih (done ++ [x]) (by rw [hd]; simp)
      have e : allTo 100 (x :: rest) = allTo 100 rest := by simp [allTo, h]
      rw [e]
      refine Ev.step (fun k => ?_) this
      simp only [PFnAdded.impl_fits.l0]
      rw [hrd, if_pos (by omega), if_pos (by omega), if_pos (by omega), if_neg (by omega), w64' (by omega) (by omega)]
      simp
    · have e : allTo 100 (x :: rest) = false := by simp [allTo, h]
      rw [e]
      refine Ev.step (f := fun _ => some _) (fun k => ?_) (Ev.now _)
      simp only [PFnAdded.impl_fits.l0]
      rw [hrd, if_pos (by omega), if_pos (by omega), if_pos (by omega), if_pos (by omega)]
theorem zz_l0 : ∀ (rest done : List (List Int)), xs = done ++ rest → Ev (fun k => PFnAdded.laws_zzFits2.l0 k xs (xs.length : Int) (done.length : Int)) (allTo 2147483647 rest) := by
  intro rest
  induction rest with
  | nil =>
    intro done hd
    refine Ev.step (f := fun _ => some _) (fun k => ?_) (Ev.now _)
    have hdl : xs.length = done.length := by rw [hd]; simp
    simp only [PFnAdded.laws_zzFits2.l0]
    rw [if_neg (by omega)]
    simp [allTo]
  | cons x rest ih =>
    intro done hd
    have hdl : done.length < xs.length := by rw [hd]; simp
    have hrd : PFnAdded.rd_L1 xs (done.length : Int) = x := by rw [hd]; exact rd_row done x rest _ rfl
    by_cases h : x.length ≤ 2147483647
    · have := ih (done ++ [x]) (by rw [hd]; simp)
      have e : allTo 2147483647 (x :: rest) = allTo 2147483647 rest := by simp [allTo, h]
      rw [e]
      refine Ev.step (fun k => ?_) this
      simp only [PFnAdded.laws_zzFits2.l0]
      rw [hrd, if_pos (by omega), if_pos (by omega), if_pos (by omega), if_neg (by omega), w64' (by omega) (by omega)]
      simp
    · have e : allTo 2147483647 (x :: rest) = false := by simp [allTo, h]
      rw [e]
      refine Ev.step (f := fun _ => some _) (fun k => ?_) (Ev.now _)
      simp only [PFnAdded.laws_zzFits2.l0]
      rw [hrd, if_pos (by omega), if_pos (by omega), if_pos (by omega), if_pos (by omega)]
theorem small_is : ∃ k, PFnAdded.spec_IsSmall.f k xs = some (allTo 60 xs && decide (xs.length ≤ 20)) := (small_l0 xs hl xs [] rfl).rounds
theorem fits_is (h : xs.length ≤ 60) : ∃ k, PFnAdded.impl_fits.f k xs = some (allTo 100 xs) := by
  obtain ⟨k, hk⟩ := (fits_l0 xs hl xs [] rfl).rounds
  refine ⟨k, ?_⟩
  unfold PFnAdded.impl_fits.f
  rw [if_neg (by omega)]
  exact hk
theorem zz_is : ∃ k b, PFnAdded.laws_zzFits2.f k xs = some b ∧ (b = true → xs.length ≤ 2147483647) := by
  by_cases h : (xs.length : Int) > 2147483647
  · exact ⟨0, false, by unfold PFnAdded.laws_zzFits2.f; rw [if_pos h], fun h => by cases h⟩
  · obtain ⟨k, hk⟩ := (zz_l0 xs hl xs [] rfl).rounds
    exact ⟨k, _, by unfold PFnAdded.laws_zzFits2.f; rw [if_neg h]; exact hk, fun _ => by omega⟩
end

theorem implMatch_calls (A : Option Addr) (c : Nat) (D : List Int) (fu : Nat) (tw fl : Int) (Ai : Option Addr) (ci : Nat) (l : List Int) (w : World) (hD : Kd.C (Kd.int .u8) w A D.length D) (hDr : ∀ x ∈ D, 0 ≤ x ∧ x < 256) (hC : Kd.C (Kd.int .u8) w Ai l.length l) (hc : l.length ≤ ci) (hl : l.length ≤ 60) (hr : ∀ x ∈ l, 0 ≤ x ∧ x < 256)
    (hn0 : 0 < D.length) (hn : D.length ≤ 2000) (hf : fu ≤ 50) (hfl0 : 0 ≤ fl) (hfl1 : fl ≤ 255) :
    Calls Try.prog 16 #[.agg #[.slice A D.length c, .int .u32 fu, .int .u32 tw, .int .i64 fl], .slice Ai l.length ci] w fun e w' => e = .returned (.tuple #[.bool (might D (bitsL fu tw D.length l)), .bool true]) ∧ Below w.heap.size w w' := by
  obtain ⟨kf, hkf⟩ := fits_is [l] (by simp) (by simp)
  have hkt : allTo 100 [l] = true := by simp [allTo]; omega
  rw [hkt] at hkf
  have HK := Aside0.mk hkf
  have HC := Aside0.mk hC
  have HDr := Aside0.mk hDr
  have HR := Aside0.mk hr
  obtain ⟨n, hnn⟩ : ∃ n, n = D.length := ⟨_, rfl⟩
  have HLD : Aside0 (∀ w2, Below w.heap.size w w2 → Calls Try.prog 28 #[.agg #[.slice A n c, .int .u32 fu, .int .u32 tw, .int .i64 fl]] w2 fun e w' => ∃ f m go c1, e = .returned (.pointer (some ⟨f, 0, none⟩)) ∧ FB w' f m (some ⟨go, 0, none⟩) n c1 fu tw fl ∧ (Kd.int .u8).R 5 w' w2.heap.size (fun _ => True) (.slice (some ⟨go, 0, none⟩) n c1) D ∧ Below w2.heap.size w2 w') := ⟨fun w2 h2 => by
    rw [hnn]; exact loaded_calls A c D fu tw fl w2 (Kd.C_below hD h2) hn0 hn hf hfl0 hfl1⟩
  rw [← hnn] at hn0 hn ⊢
  obtain ⟨B, hB⟩ : ∃ B, B = might D (bitsL fu tw n l) := ⟨_, rfl⟩
  rw [← hB]
  have HBB := Aside0.mk hB
  clear hkf hC hDr hr hD hnn hB hkt
  go_enter Try.func16, Try.ntmps16
  have HB0 := Aside0.mk (below_alloc (Below.refl w.heap.size w) (boxO A n c fu tw fl))
  go_wp2_with (first
    | (go_at_call 28; refine (HLD.out _ HB0.out).mono ?_; rintro e w1 ⟨f, m, go, c1, rfl, hF, hR, hb⟩; have HF1 := Aside0.mk hF; have HR1 := Aside0.mk hR; have HB1 := Aside0.mk (below_step HB0.out hb); clear hF hR hb)
    | (go_at_call 22; refine (PFnAdded.impl_fits.calls kf _ _ [l] true _ (PFnMurmur.row_one w1 Ai ci l _ (Kd.C_below HC.out HB1.out) hc) (Nat.le_refl _) HK.out).mono ?_; rintro e w2 ⟨rfl, d2⟩; have hb2 := below_step (below_alloc (Below.refl w1.heap.size w1) _) d2.below; have HB2 := Aside0.mk (below_step HB1.out hb2); have HF2 := Aside0.mk (HF1.out.below hb2); have HR2 := Aside0.mk (Kd.R_below HR1.out hb2); clear hb2 d2)
    | (go_at_call 24; refine (PFnNew.clone_calls Ai ci l w2 (Kd.C_below HC.out HB2.out) (by omega)).mono ?_; rintro e w3 ⟨v3, rfl, hR3, hb3⟩; obtain ⟨A3, c3, rfl⟩ := Kd.R_slice hR3; have HR3 := Aside0.mk hR3; have HB3 := Aside0.mk hb3; clear hR3 hb3)
    | (go_at_call 31; refine (Match_calls f m c1 fu (some ⟨go, 0, none⟩) D n tw fl A3 c3 l w3 (HF2.out.below HB3.out) (by have h := Kd.R_reads' (Kd.R_below HR2.out HB3.out); have e := h.1; have g := h.2.2; rw [← e] at g; exact g) HDr.out (Kd.R_reads' HR3.out).2.2 (Kd.R_reads' HR3.out).2.1 (by omega) HR.out hn0 hn hf).mono ?_; rintro e w4 ⟨rfl, hb4⟩; have HB4 := Aside0.mk (below_step (below_step HB2.out HB3.out) hb4); clear hb4)
    | fail)
  go_ret2
  exact ⟨by rw [HBB.out]; rfl, HB4.out⟩
end Go.Proofs.Ythmfbkmdhnfbnaa.BloomW
