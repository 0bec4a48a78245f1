/-
  The law FnUnBech32, walked.
-/
import Derived.Test.YthkijnfpllbdnaaDoorSunWalk
namespace Go.Proofs.YthkijnfpllbdnaaDoor.Bec
open Go.RowKit Go.Proofs.YthkijnfpllbdnaaDoor.Hand Go.Proofs.YthkijnfpllbdnaaDoorW.PrintWords Go.Proofs.YthkijnfpllbdnaaDoorW.PrintLast Go.Proofs.YthkijnfpllbdnaaDoorW.PrintMore

def a12 : ByteArray := ⟨#[65, 49, 50, 85, 69, 76, 53, 76]⟩
theorem a12_is : decP (bytesOf a12) = some ([97], []) := by decide +kernel

set_option maxHeartbeats 8000000 in
theorem un_law (s : ByteArray) (w : World) (hG : genAt w) (h0 : 0 < w.heap.size) :
    Calls Tryd.prog 3 #[.string s] w fun e w' => e = .returned (.bool true) ∧ Below w.heap.size w w' := by
  have HS : Aside0 (∀ w2 : World, Calls Tryd.prog 6 #[.string s] w2 fun e w' => IsUn (decP (bytesOf s)) e w' ∧ Below w2.heap.size w2 w') := ⟨fun w2 => sun_calls s w2⟩
  have HU : Aside0 (∀ w2 : World, Below w.heap.size w w2 → Calls Tryd.prog 7 #[.string s] w2 fun e w' => IsUn (decP (bytesOf s)) e w' ∧ Below w2.heap.size w2 w') := ⟨fun w2 hb => unb_calls s w2 (hG.below hb h0) (Nat.lt_of_lt_of_le h0 hb.size)⟩
  have HA : Aside0 (∀ w2 : World, Below w.heap.size w w2 → Calls Tryd.prog 7 #[.string a12] w2 fun e w' => ∃ A c, e = .returned (.tuple #[.string (strOfNums [97]), .slice A 0 c, .bool true]) ∧ Below w2.heap.size w2 w') := ⟨fun w2 hb => (unb_calls a12 w2 (hG.below hb h0) (Nat.lt_of_lt_of_le h0 hb.size)).mono fun e w' ⟨a, b⟩ => by
    obtain ⟨A, c, h1, _, _⟩ := a.2 [97] [] a12_is
    exact ⟨A, c, h1, b⟩⟩
  clear hG h0
  by_cases hbig : (2147483647 : Int) < s.size
  · clear HS HU HA
    go_enter Tryd.func3, Tryd.ntmps3
    go_wp2
    go_ret
    exact ⟨rfl, Below.refl _ _⟩
  · generalize decP (bytesOf s) = r at HS HU
    unfold a12 at HA
    generalize strOfNums [97] = t97 at HA
    cases r with
    | none =>
      have HS2 : Aside0 (∀ w2 : World, Calls Tryd.prog 6 #[.string s] w2 fun e w' => e = .returned (.tuple #[.string ⟨#[]⟩, .slice none 0 0, .bool false]) ∧ Below w2.heap.size w2 w') := ⟨fun w2 => (HS.out w2).mono fun e w' ⟨a, b⟩ => ⟨a.1 rfl, b⟩⟩
      have HU2 : Aside0 (∀ w2 : World, Below w.heap.size w w2 → Calls Tryd.prog 7 #[.string s] w2 fun e w' => e = .returned (.tuple #[.string ⟨#[]⟩, .slice none 0 0, .bool false]) ∧ Below w2.heap.size w2 w') := ⟨fun w2 hb => (HU.out w2 hb).mono fun e w' ⟨a, b⟩ => ⟨a.1 rfl, b⟩⟩
      clear HS HU
      go_enter Tryd.func3, Tryd.ntmps3
      go_wp2_with fail
      refine (HS2.out _).mono ?_
      rintro e w1 ⟨rfl, hb1⟩
      have HB1 := Aside0.mk hb1
      clear hb1
      go_wp2_with fail
      refine (HU2.out _ HB1.out).mono ?_
      rintro e w2 ⟨rfl, hb2⟩
      have HB2 := Aside0.mk (below_step HB1.out hb2)
      clear hb2
      go_wp2_with fail
      refine (HA.out _ HB2.out).mono ?_
      rintro e w3 ⟨A, c, rfl, hb3⟩
      have HB3 := Aside0.mk (below_step HB2.out hb3)
      clear hb3
      go_wp2
      go_ret
      exact ⟨rfl, HB3.out⟩
    | some p =>
      obtain ⟨hh, g⟩ := p
      obtain ⟨t, ht⟩ : ∃ t, t = strOfNums hh := ⟨_, rfl⟩
      obtain ⟨q, hq⟩ : ∃ q, q = g.length := ⟨_, rfl⟩
      have HS2 : Aside0 (∀ w2 : World, Calls Tryd.prog 6 #[.string s] w2 fun e w' => ∃ A c, e = .returned (.tuple #[.string t, .slice A q c, .bool true]) ∧ Kd.C (Kd.int .u8) w' A q g ∧ q ≤ c ∧ Below w2.heap.size w2 w') := ⟨fun w2 => (HS.out w2).mono fun e w' ⟨a, b⟩ => by
        obtain ⟨A, c, h1, h2, h3⟩ := a.2 hh g rfl
        rw [ht, hq]
        exact ⟨A, c, h1, h2, h3, b⟩⟩
      have HU2 : Aside0 (∀ w2 : World, Below w.heap.size w w2 → Calls Tryd.prog 7 #[.string s] w2 fun e w' => ∃ A c, e = .returned (.tuple #[.string t, .slice A q c, .bool true]) ∧ Kd.C (Kd.int .u8) w' A q g ∧ q ≤ c ∧ Below w2.heap.size w2 w') := ⟨fun w2 hb => (HU.out w2 hb).mono fun e w' ⟨a, b⟩ => by
        obtain ⟨A, c, h1, h2, h3⟩ := a.2 hh g rfl
        rw [ht, hq]
        exact ⟨A, c, h1, h2, h3, b⟩⟩
      have HSM : Aside0 (∀ (W : World) A1 c1 A2 c2, Kd.C (Kd.int .u8) W A1 q g → q ≤ c1 → Kd.C (Kd.int .u8) W A2 q g → q ≤ c2 → Calls Tryd.prog 8 #[.slice A1 q c1, .slice A2 q c2] W fun e w' => e = .returned (.bool true) ∧ Below W.heap.size W w') := ⟨fun W A1 c1 A2 c2 h1 h2 h3 h4 => by
        subst hq
        exact (PFnUnBech32.laws_same.calls A1 c1 g A2 c2 g true W h1 h2 h3 h4 (by simp [PFnUnBech32.laws_same.f])).mono fun e w' ⟨a, b⟩ => ⟨a, b.below⟩⟩
      clear HS HU ht hq
      go_enter Tryd.func3, Tryd.ntmps3
      go_wp2_with fail
      refine (HS2.out _).mono ?_
      rintro e w1 ⟨A1, c1, rfl, hC1, hc1, hb1⟩
      have HB1 := Aside0.mk hb1
      have HC1 := Aside0.mk hC1
      have HCc1 := Aside0.mk hc1
      clear hb1 hC1 hc1
      go_wp2_with fail
      refine (HU2.out _ HB1.out).mono ?_
      rintro e w2 ⟨A2, c2, rfl, hC2, hc2, hb2⟩
      have HB2 := Aside0.mk (below_step HB1.out hb2)
      have HC12 := Aside0.mk (Kd.C_below HC1.out hb2)
      have HC2 := Aside0.mk hC2
      have HCc2 := Aside0.mk hc2
      clear hb2 hC2 hc2
      go_wp2_with fail
      refine (HA.out _ HB2.out).mono ?_
      rintro e w3 ⟨A, c, rfl, hb3⟩
      have HB3 := Aside0.mk (below_step HB2.out hb3)
      have HC13 := Aside0.mk (Kd.C_below HC12.out hb3)
      have HC23 := Aside0.mk (Kd.C_below HC2.out hb3)
      clear hb3
      go_wp2_with (first | (go_at_call 8; refine (HSM.out _ A2 c2 A1 c1 HC23.out HCc2.out HC13.out HCc1.out).mono ?_; rintro e w4 ⟨rfl, hb4⟩; have HB4 := Aside0.mk (below_step HB3.out hb4); clear hb4) | fail)
      go_ret
      exact ⟨rfl, HB4.out⟩
end Go.Proofs.YthkijnfpllbdnaaDoor.Bec
