/-
  The walks of impl.Regroup and of the law FnGroups.
-/
import Derived.Test.YthkijnfpllbdnaaGroupsRef
import Derived.Test.YthkijnfpllbdnaaGroupsWalk
import Derived.Deep.QuietTactic
namespace Go.Proofs.Ythkijnfpllbdnaa.PFnGroups
open Go.RowKit Go.Proofs.Ythkijnfpllbdnaa.Hand Go.Proofs.YthkijnfpllbdnaaW.PrintWords Go.Proofs.YthkijnfpllbdnaaW.PrintLast Go.Proofs.YthkijnfpllbdnaaW.PrintMore Grp

theorem regroup_calls (fb tb : Nat) (pad : Bool) (b S : List Int) (hb : b.length ≤ 200)
    (hconv : ∀ (A : Option Addr) (c : Nat) (w : World), Kd.C (Kd.int .u8) w A b.length b → Calls Try.prog 7 #[.slice A b.length c, .int .u8 fb, .int .u8 tb, .bool pad] w fun e w' => ∃ v, e = .returned (.tuple #[v, .nilIface]) ∧ Kd.R (Kd.int .u8) 5 w' w.heap.size (fun _ => True) v S ∧ Below w.heap.size w w')
    (A : Option Addr) (c : Nat) (w : World) (hC : Kd.C (Kd.int .u8) w A b.length b) :
    Calls Try.prog 4 #[.slice A b.length c, .int .u8 fb, .int .u8 tb, .bool pad] w fun e w' => ∃ v, e = .returned (.tuple #[v, .bool true]) ∧ Kd.R (Kd.int .u8) 5 w' w.heap.size (fun _ => True) v S ∧ Below w.heap.size w w' := by
  have HC := Aside0.mk hC
  have HV := Aside0.mk hconv
  clear hC hconv
  have h200 : (b.length : Int) ≤ 200 := by omega
  go_enter Try.func4, Try.ntmps4
  go_wp2_with (first
    | (go_at_call 8; refine (clone_calls A c b w HC.out (by omega)).mono ?_; rintro e w1 ⟨v1, rfl, hR, b1⟩; obtain ⟨A1, c1, rfl⟩ := Kd.R_slice hR; have HR1 := Aside0.mk (Kd.R_reads' hR).2.2; have B1 := Aside0.mk b1; clear hR b1)
    | (go_at_call 7; with_reducible refine (HV.out A1 c1 _ HR1.out).mono ?_; rintro e w2 ⟨v2, rfl, hR2, b2⟩; have HR2 := Aside0.mk (Kd.R_lower hR2 B1.out.size); have B2 := Aside0.mk (below_step B1.out b2); clear hR2 b2)
    | fail)
  go_quiet (fail)
  go_wp2
  go_ret2
  exact ⟨_, rfl, Kd.R_below HR2.out (pw_below_drewN (Below.refl _ _) _), below_step B2.out (pw_below_drewN (Below.refl _ _) _)⟩

theorem up_calls (b : List Int) (hb : b.length ≤ 120) (hr : ∀ x ∈ b, 0 ≤ x ∧ x < 256) (A : Option Addr) (c : Nat) (w : World) (hC : Kd.C (Kd.int .u8) w A b.length b) :
    Calls Try.prog 4 #[.slice A b.length c, .int .u8 8, .int .u8 5, .bool true] w fun e w' => ∃ v, e = .returned (.tuple #[v, .bool true]) ∧ Kd.R (Kd.int .u8) 5 w' w.heap.size (fun _ => True) v (groups b) ∧ Below w.heap.size w w' := by
  refine regroup_calls 8 5 true b (groups b) (by omega) (fun A c w hC => ?_) A c w hC
  have h := conv_calls 8 5 (by decide) (by decide) (by decide) (by decide) true A c b w hC (by omega) hr (up b) rfl (fun h => by cases h)
  simpa [groups] using h

theorem down_calls (b : List Int) (hb : b.length ≤ 120) (hr : ∀ x ∈ b, 0 ≤ x ∧ x < 256) (A : Option Addr) (c : Nat) (w : World) (hC : Kd.C (Kd.int .u8) w A (groups b).length (groups b)) :
    Calls Try.prog 4 #[.slice A (groups b).length c, .int .u8 5, .int .u8 8, .bool false] w fun e w' => ∃ v, e = .returned (.tuple #[v, .bool true]) ∧ Kd.R (Kd.int .u8) 5 w' w.heap.size (fun _ => True) v b ∧ Below w.heap.size w w' := by
  obtain ⟨d, _, l1, l2⟩ := groups_facts b hr
  obtain ⟨f1, f2, f3⟩ := back_facts b hr
  refine regroup_calls 5 8 false (groups b) b (by omega) (fun A c w hC => ?_) A c w hC
  have h := conv_calls 5 8 (by decide) (by decide) (by decide) (by decide) false A c (groups b) w hC (by omega) d (conv 5 8 (groups b) st0) rfl (fun _ => ⟨f2, f3⟩)
  rw [f1] at h
  simpa using h

theorem same_f (l : List Int) : laws_same.f l l = some true := by
  unfold laws_same.f
  rw [beq_self_eq_true]

theorem same_calls (A1 A3 : Option Addr) (c1 c3 : Nat) (l : List Int) (w : World) (h1 : Kd.C (Kd.int .u8) w A1 l.length l) (h2 : l.length ≤ c1) (h3 : Kd.C (Kd.int .u8) w A3 l.length l) (h4 : l.length ≤ c3) :
    Calls Try.prog 5 #[.slice A1 l.length c1, .slice A3 l.length c3] w fun e w' => e = .returned (.bool true) ∧ Below w.heap.size w w' :=
  (laws_same.calls A1 c1 l A3 c3 l true w h1 h2 h3 h4 (same_f l)).mono fun _ _ ⟨a, b⟩ => ⟨a, b.below⟩

set_option maxHeartbeats 1000000 in
theorem law_calls (A : Option Addr) (c : Nat) (b : List Int) (w : World) (hC : Kd.C (Kd.int .u8) w A b.length b) (hc : b.length ≤ c) (hr : ∀ x ∈ b, 0 ≤ x ∧ x < 256) :
    Calls Try.prog 3 #[.slice A b.length c] w fun e w' => e = .returned (.bool true) ∧ Below w.heap.size w w' := by
  have HC := Aside0.mk hC
  clear hC
  by_cases h0 : (120 : Int) < (b.length : Int)
  · by_cases h1 : (2147483647 : Int) < (b.length : Int)
    · go_enter Try.func3, Try.ntmps3
      go_wp2
      go_ret
      exact ⟨rfl, Below.refl _ _⟩
    · go_enter Try.func3, Try.ntmps3
      go_wp2
      go_ret
      exact ⟨rfl, Below.refl _ _⟩
  · have h2 : (b.length : Int) ≤ 120 := by omega
    have hb : b.length ≤ 120 := by omega
    obtain ⟨k, hk⟩ := groups_f b (by omega) hr
    have HU := Aside0.mk (up_calls b hb hr)
    have HD := Aside0.mk (down_calls b hb hr)
    have HK : Aside0 (∀ w1 : World, Below w.heap.size w w1 → Calls Try.prog 6 #[.slice A b.length c] w1 fun e w' => ∃ v0_ : Value, e = .returned v0_ ∧ Kd.R (Kd.int .u8) 5 w' w1.heap.size (fun _ => True) v0_ (groups b) ∧ Below w1.heap.size w1 w') := ⟨fun w1 hw => spec_Groups.calls k A c b _ w1 (Kd.C_below HC.out hw) hc hk⟩
    clear h0 hr hk hb
    obtain ⟨G, hG⟩ : ∃ G, G = groups b := ⟨_, rfl⟩
    rw [← hG] at HU HD HK
    clear hG
    go_enter Try.func3, Try.ntmps3
    go_wp2_with (first
      | (go_at_call 4; with_reducible refine (HU.out A c w HC.out).mono ?_; rintro e w1 ⟨v1, rfl, hR1, b1⟩; obtain ⟨A1, c1, rfl⟩ := Kd.R_slice hR1; have HR1 := Aside0.mk (Kd.R_reads' hR1).2; have B1 := Aside0.mk b1; clear hR1 b1)
      | (go_at_call 4; with_reducible refine (HD.out A1 c1 _ HR1.out.2).mono ?_; rintro e w2 ⟨v2, rfl, hR2, b2⟩; obtain ⟨A2, c2, rfl⟩ := Kd.R_slice hR2; have HR2 := Aside0.mk (Kd.R_reads' hR2).2; have HR12 := Aside0.mk (Kd.C_below HR1.out.2 b2); have B2 := Aside0.mk (below_step B1.out b2); clear hR2 b2)
      | (go_at_call 6; with_reducible refine (HK.out _ B2.out).mono ?_; rintro e w3 ⟨v3, rfl, hR3, b3⟩; obtain ⟨A3, c3, rfl⟩ := Kd.R_slice hR3; have HR3 := Aside0.mk (Kd.R_reads' hR3).2; have HR13 := Aside0.mk (Kd.C_below HR12.out b3); have HR23 := Aside0.mk (Kd.C_below HR2.out.2 b3); have B3 := Aside0.mk (below_step B2.out b3); clear hR3 b3)
      | (go_at_call 5; with_reducible refine (same_calls A1 A3 c1 c3 G _ HR13.out HR1.out.1 HR3.out.2 HR3.out.1).mono ?_; rintro e w4 ⟨rfl, d4⟩; have HR24 := Aside0.mk (Kd.C_below HR23.out d4); have B4 := Aside0.mk (below_step B3.out d4); clear d4)
      | (go_at_call 5; with_reducible refine (same_calls A2 A c2 c b _ HR24.out HR2.out.1 (Kd.C_below HC.out B4.out) hc).mono ?_; rintro e w5 ⟨rfl, d5⟩; have B5 := Aside0.mk (below_step B4.out d5); clear d5)
      | fail)
    go_ret
    exact ⟨rfl, B5.out⟩
end Go.Proofs.Ythkijnfpllbdnaa.PFnGroups
