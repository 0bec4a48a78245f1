/-
  The walks of impl.Murmur and of the law.
-/
import Derived.Test.YthmfbkmdhnfbnaaMurPkg
namespace Go.Proofs.Ythmfbkmdhnfbnaa.PFnMurmur
open Go.RowKit Go.Proofs.Ythmfbkmdhnfbnaa.Hand Go.Proofs.YthmfbkmdhnfbnaaW.PrintWords Go.Proofs.YthmfbkmdhnfbnaaW.PrintLast Go.Proofs.YthmfbkmdhnfbnaaW.PrintMore Mur

/-- A new row of one slice that is read. -/
theorem row_one (w : World) (A : Option Addr) (c : Nat) (b : List Int) (t : TypeId) (hC : Kd.C (Kd.int .u8) w A b.length b) (hc : b.length ≤ c) :
    Kd.C (Kd.slice 5 (Kd.int .u8)) (w.alloc (.cells #[.slice A b.length c] t)) (some ⟨w.heap.size, 0, none⟩) [b].length [b] := by
  refine ⟨rfl, by simp, fun _ => ⟨⟨w.heap.size, 0, none⟩, rfl, fun j p hp => ?_⟩⟩
  match j, hp with
  | 0, hp =>
    simp only [List.getElem?_cons_zero, Option.some.injEq] at hp
    subst hp
    refine ⟨[.slice A b.length c], rfl, ⟨A, c, rfl, hc, Kd.C_alloc hC _⟩, fun i u hu => ?_⟩
    match i, hu with
    | 0, hu =>
      simp only [List.getElem?_cons_zero, Option.some.injEq] at hu
      subst hu
      show (w.alloc _).cell? ⟨w.heap.size, 0, none⟩ = _
      rw [World.cell?_alloc_new]
      rfl
theorem C_empty (w : World) : Kd.C (Kd.int .u8) w none ([] : List Int).length [] := ⟨rfl, by simp, fun h => absurd h (by simp)⟩

theorem fits_f (b : List Int) (h : b.length ≤ 100) : impl_fits.f 3 [b] = some true := by
  have h2 : ¬ ((b.length : Int) > 100) := by omega
  simp [impl_fits.f, impl_fits.l0, rd_L1, h2, wrap64]
theorem small_f (b : List Int) : spec_IsSmall.f 3 [b] = some (decide (b.length ≤ 60)) := by
  by_cases h : b.length ≤ 60
  · have h2 : ¬ ((b.length : Int) > 60) := by omega
    simp [spec_IsSmall.f, spec_IsSmall.l0, rd_L1, h2, h, wrap64]
  · have h2 : ((b.length : Int) > 60) := by omega
    simp [spec_IsSmall.f, spec_IsSmall.l0, rd_L1, h2, h]

theorem impl_calls (seed : Int) (A : Option Addr) (c : Nat) (b : List Int) (w : World) (hC : Kd.C (Kd.int .u8) w A b.length b) (hc : b.length ≤ c) (hb : b.length ≤ 100) (hr : ∀ x ∈ b, 0 ≤ x ∧ x < 256) :
    Calls Try.prog 8 #[.int .u32 seed, .slice A b.length c] w fun e w' => e = .returned (.int .u32 (mur seed b)) ∧ Below w.heap.size w w' := by
  have HC := Aside0.mk hC
  have HR := Aside0.mk hr
  clear hC hr
  go_enter Try.func8, Try.ntmps8
  go_wp2_with (first
    | (go_at_call 22; refine (impl_fits.calls 3 _ _ [b] true _ (row_one w A c b _ HC.out hc) (Nat.le_refl _) (fits_f b hb)).mono ?_; rintro e w1 ⟨rfl, d1⟩; have B1 := Aside0.mk (below_step (below_alloc (Below.refl _ _) _) d1.below); clear d1)
    | (go_at_call 24; refine (clone_calls A c b _ (Kd.C_below HC.out B1.out) (by omega)).mono ?_; rintro e w2 ⟨v, rfl, hR, b2⟩; obtain ⟨A2, c2, rfl⟩ := Kd.R_slice hR; have HR2 := Aside0.mk (Kd.R_reads' hR); have B2 := Aside0.mk (below_step B1.out b2); clear hR b2)
    | (go_at_call 23; refine (pkg_calls seed A2 c2 b _ HR2.out.2.2 HR2.out.2.1 hb HR.out).mono ?_; rintro e w3 ⟨rfl, b3⟩; have B3 := Aside0.mk (below_step B2.out b3); clear b3)
    | fail)
  go_ret
  exact ⟨rfl, B3.out⟩

theorem law_calls (seed : Int) (A : Option Addr) (c : Nat) (b : List Int) (w : World) (hC : Kd.C (Kd.int .u8) w A b.length b) (hc : b.length ≤ c) (hr : ∀ x ∈ b, 0 ≤ x ∧ x < 256) :
    Calls Try.prog 3 #[.int .u32 seed, .slice A b.length c] w fun e w' => e = .returned (.bool true) ∧ Below w.heap.size w w' := by
  have HC := Aside0.mk hC
  have HR := Aside0.mk hr
  clear hC hr
  by_cases h0 : (2147483647 : Int) < (b.length : Int)
  · go_enter Try.func3, Try.ntmps3
    go_wp2
    go_ret
    exact ⟨rfl, Below.refl _ _⟩
  by_cases h1 : b.length ≤ 60
  · have hs : Aside0 (spec_IsSmall.f 3 [b] = some true) := ⟨by rw [small_f, decide_eq_true h1]⟩
    obtain ⟨M, hM⟩ : ∃ M, M = mur seed b := ⟨_, rfl⟩
    have hn : Aside0 (∀ w : World, Calls Try.prog 8 #[.int .u32 1, .slice none 0 0] w fun e w' => e = .returned (.int .u32 1364076727) ∧ Below w.heap.size w w') := ⟨fun w => by
      have := impl_calls 1 none 0 [] w (C_empty w) (Nat.le_refl _) (by simp) (by simp)
      rwa [mur_nil] at this⟩
    have hm : Aside0 (∀ w1 : World, Below w.heap.size w w1 → Calls Try.prog 8 #[.int .u32 seed, .slice A b.length c] w1 fun e w' => e = .returned (.int .u32 M) ∧ Below w1.heap.size w1 w') := ⟨fun w1 hw => by
      rw [hM]
      exact impl_calls seed A c b w1 (Kd.C_below HC.out hw) hc (by omega) HR.out⟩
    have hp : Aside0 (∀ w1 : World, Below w.heap.size w w1 → Calls Try.prog 9 #[.int .u32 seed, .slice A b.length c] w1 fun e w' => e = .returned (.int .u32 M) ∧ Below w1.heap.size w1 w') := ⟨fun w1 hw => by
      rw [hM]
      exact spec_calls seed A c b w1 (Kd.C_below HC.out hw) hc (by omega) HR.out⟩
    clear hM
    have h2 : (b.length : Int) ≤ 60 := by omega
    clear h0 h1
    go_enter Try.func3, Try.ntmps3
    go_wp2_with (first
      | (go_at_call 7; refine (spec_IsSmall.calls 3 _ _ [b] true _ (row_one w A c b _ HC.out hc) (Nat.le_refl _) hs.out).mono ?_; rintro e w1 ⟨rfl, d1⟩; have B1 := Aside0.mk (below_step (below_alloc (Below.refl _ _) _) d1.below); clear d1)
      | (go_at_call 9; with_reducible refine (hp.out _ B2.out).mono ?_; rintro e w3 ⟨rfl, b3⟩; have B3 := Aside0.mk (below_step B2.out b3); clear b3)
      | (go_at_call 8; with_reducible refine (hn.out _).mono ?_; rintro e w4 ⟨rfl, b4⟩; have B4 := Aside0.mk (below_step B3.out b4); clear b4)
      | (go_at_call 8; with_reducible refine (hm.out _ B1.out).mono ?_; rintro e w2 ⟨rfl, b2⟩; have B2 := Aside0.mk (below_step B1.out b2); clear b2)
      | fail)
    go_ret
    exact ⟨rfl, B4.out⟩
  · have hs : Aside0 (spec_IsSmall.f 3 [b] = some false) := ⟨by rw [small_f, decide_eq_false h1]⟩
    have h2 : (b.length : Int) ≤ 2147483647 := by omega
    clear h0 h1
    go_enter Try.func3, Try.ntmps3
    go_wp2_with (first
      | (go_at_call 7; refine (spec_IsSmall.calls 3 _ _ [b] false _ (row_one w A c b _ HC.out hc) (Nat.le_refl _) hs.out).mono ?_; rintro e w1 ⟨rfl, d1⟩; have B1 := Aside0.mk (below_step (below_alloc (Below.refl _ _) _) d1.below); clear d1)
      | fail)
    go_ret
    exact ⟨rfl, B1.out⟩
end Go.Proofs.Ythmfbkmdhnfbnaa.PFnMurmur
