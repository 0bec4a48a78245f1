/-
  The walk of impl.UnBech32.
-/
import Derived.Test.YthkijnfpllbdnaaDoorDecWalk
namespace Go.Proofs.YthkijnfpllbdnaaDoor.Bec
open Go.RowKit Go.Proofs.YthkijnfpllbdnaaDoor.Hand Go.Proofs.YthkijnfpllbdnaaDoorW.PrintWords Go.Proofs.YthkijnfpllbdnaaDoorW.PrintLast Go.Proofs.YthkijnfpllbdnaaDoorW.PrintMore

/-- What impl.UnBech32 answers. -/
def IsUn (r : Option (List Int × List Int)) (e : Ending) (w' : World) : Prop :=
  (r = none → e = .returned (.tuple #[.string ⟨#[]⟩, .slice none 0 0, .bool false])) ∧
  ∀ h g, r = some (h, g) → ∃ A c, e = .returned (.tuple #[.string (strOfNums h), .slice A g.length c, .bool true]) ∧ Kd.C (Kd.int .u8) w' A g.length g ∧ g.length ≤ c

theorem unb_calls (s : ByteArray) (w : World) (hG : genAt w) (h0 : 0 < w.heap.size) :
    Calls Tryd.prog 7 #[.string s] w fun e w' => IsUn (decP (bytesOf s)) e w' ∧ Below w.heap.size w w' := by
  have HD := Aside0.mk (decode_calls s w hG h0)
  clear hG h0
  generalize decP (bytesOf s) = r at HD ⊢
  cases r with
  | none =>
    have HD2 : Aside0 (Calls Tryd.prog 17 #[.string s] w fun e w' => ∃ x, e = .returned (.tuple #[.string ⟨#[]⟩, .slice none 0 0, .iface 53 x]) ∧ Below w.heap.size w w') := ⟨HD.out.mono fun e w' ⟨a, b⟩ => by
      obtain ⟨x, hx⟩ := a.1 rfl
      exact ⟨x, hx, b⟩⟩
    clear HD
    go_enter Tryd.func7, Tryd.ntmps7
    go_wp2_with (first | (go_at_call 17; refine HD2.out.mono ?_; rintro e w1 ⟨x, rfl, hb1⟩; have HB1 := Aside0.mk hb1; clear hb1) | fail)
    go_region
    all_goals
      go_wp2
      go_ret3
      exact ⟨⟨fun _ => rfl, fun h g e => by cases e⟩, below_drew HB1.out⟩
  | some p =>
    obtain ⟨hh, g⟩ := p
    have HD2 : Aside0 (Calls Tryd.prog 17 #[.string s] w fun e w' => ∃ A c, e = .returned (.tuple #[.string (strOfNums hh), .slice A g.length c, .nilIface]) ∧ Kd.C (Kd.int .u8) w' A g.length g ∧ g.length ≤ c ∧ Below w.heap.size w w') := ⟨HD.out.mono fun e w' ⟨a, b⟩ => by
      obtain ⟨A, c, hx, hy, hz⟩ := a.2 hh g rfl
      exact ⟨A, c, hx, hy, hz, b⟩⟩
    clear HD
    obtain ⟨q, hq⟩ : ∃ q, q = g.length := ⟨_, rfl⟩
    obtain ⟨t, ht⟩ : ∃ t, t = strOfNums hh := ⟨_, rfl⟩
    rw [← hq, ← ht] at HD2
    have HQ := Aside0.mk hq
    have HT := Aside0.mk ht
    clear hq ht
    go_enter Tryd.func7, Tryd.ntmps7
    go_wp2_with (first | (go_at_call 17; refine HD2.out.mono ?_; rintro e w1 ⟨A, c, rfl, hC1, hc1, hb1⟩; have HB1 := Aside0.mk hb1; have HC1 := Aside0.mk hC1; have HCc := Aside0.mk hc1; clear hb1 hC1 hc1) | fail)
    go_region
    all_goals
      go_wp2
      go_ret3
      refine ⟨⟨(fun e => by cases e), fun a b e => ?_⟩, below_drew HB1.out⟩
      injection e with e
      injection e with e1 e2
      subst e1 e2
      exact ⟨A, c, by rw [← HQ.out, ← HT.out]; rfl, by rw [← HQ.out]; exact Kd.C_below HC1.out (below_drew (Below.refl _ _)), by rw [← HQ.out]; exact HCc.out⟩
end Go.Proofs.YthkijnfpllbdnaaDoor.Bec
