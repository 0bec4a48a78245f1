/-
  gcs.zzLeft, gcs.zzRound: the round of SipHash on an array behind a pointer.
-/
import Derived.Test.YtfhkkojdaejnjaaDoorJA
import Derived.Deep.RegionWith
import Derived.Deep.Cut
set_option linter.unusedVariables false
namespace Go.Proofs.YtfhkkojdaejnjaaDoor.Gcs
open Go.RowKit Go.Proofs.YtfhkkojdaejnjaaDoor.Hand Go.Proofs.YtfhkkojdaejnjaaDoor.PFnForms Go.Proofs.YtfhkkojdaejnjaaDoorW.PrintWords Go.Proofs.YtfhkkojdaejnjaaDoorW.PrintLast Go.Proofs.YtfhkkojdaejnjaaDoorW.PrintMore

theorem left_calls (k : Nat) (x : Int) (w : World) (h : k = 13 ∨ k = 16 ∨ k = 17 ∨ k = 21 ∨ k = 32) : Calls Tryd.prog 58 #[.int .u64 x, .int .u64 (k : Int)] w fun e w' => e = .returned (.int .u64 (rotl k x)) ∧ w' = w := by
  rcases h with rfl | rfl | rfl | rfl | rfl
  all_goals
    go_enter Tryd.func58, Tryd.ntmps58
    go_wp2
    go_ret
    exact ⟨by simp [rotl], rfl⟩
/-- Nothing but one block (of one's own) turned. -/
structure Onl (g : Nat) (w w' : World) : Prop where
  fr : Fr1 g w w'
  bel : ∀ B w0, B ≤ g → Below B w0 w → Below B w0 w'
theorem Onl.refl (g : Nat) (w : World) : Onl g w w := ⟨Fr1.refl g w, fun _ _ _ h => h⟩
theorem Onl.trans {g : Nat} {w w1 w2 : World} (h : Onl g w w1) (h2 : Onl g w1 w2) : Onl g w w2 := ⟨h.fr.trans h2.fr, fun B w0 hB hb => h2.bel B w0 hB (h.bel B w0 hB hb)⟩
theorem Onl.drew {g : Nat} {w w1 : World} (h : Onl g w w1) : Onl g w w1.drew := ⟨⟨h.fr.size, h.fr.blk⟩, fun B w0 hB hb => below_drew1 (h.bel B w0 hB hb)⟩
theorem Onl.set {g i : Nat} {w w1 : World} {v : Value} (h : Onl g w w1) : Onl g w (w1.setCell ⟨g, i, none⟩ v) := ⟨⟨by simpa [World.setCell] using h.fr.size, fun k hk hn => (Below.heap_setCell w1 ⟨g, i, none⟩ v k hn).trans (h.fr.blk k hk hn)⟩, fun B w0 hB hb => (h.bel B w0 hB hb).setCell hB _⟩
theorem Onl.drewN {g : Nat} {w w1 : World} (h : Onl g w w1) (m : Nat) : Onl g w (w1.drewN m) := ⟨⟨h.fr.size, h.fr.blk⟩, fun B w0 hB hb => pw_below_drewN (h.bel B w0 hB hb) m⟩
section
variable {w : World} {g : Nat} {a b c d x : Int}
theorem Bx.s0 (h : Bx w g a b c d) : Bx (w.setCell ⟨g, 0, none⟩ (.int .u64 x)) g x b c d := ⟨bx_set h.blk⟩
theorem Bx.s1 (h : Bx w g a b c d) : Bx (w.setCell ⟨g, 1, none⟩ (.int .u64 x)) g a x c d := ⟨bx_set h.blk⟩
theorem Bx.s2 (h : Bx w g a b c d) : Bx (w.setCell ⟨g, 2, none⟩ (.int .u64 x)) g a b x d := ⟨bx_set h.blk⟩
theorem Bx.s3 (h : Bx w g a b c d) : Bx (w.setCell ⟨g, 3, none⟩ (.int .u64 x)) g a b c x := ⟨bx_set h.blk⟩
theorem Bx.drew (h : Bx w g a b c d) : Bx w.drew g a b c d := ⟨h.blk⟩
theorem Bx.drewN (h : Bx w g a b c d) (m : Nat) : Bx (w.drewN m) g a b c d := ⟨h.blk⟩
end
theorem step_go {P : Program} {ops : Array Oper} {o : Oper} {a : Act} {W : World} {Kc : Act → World → Prop} {Q : Exit → Act → World → Prop} {E : Prop} (hgd : o.guard = none) {f : FuncId} {vals : Array Value} {Post : Ending → World → Prop}
    (hrun : (execOp a.eval o).run P W = .ok (.enter f vals) W) (hc : Calls P f vals W Post) (hp : ∀ e w1, Post e w1 → ∃ v, e = .returned v ∧ Kc (a.put o.dst v) w1) :
    if Region.wanted o (yielded ops a.tmps) = true then Oper.wp P o a W Kc Q else E := by
  rw [if_pos (by simp [Region.wanted, hgd])]
  unfold Oper.wp
  rw [hrun, Oper.upon_enter]
  exact hc.mono fun e w1 h => by
    obtain ⟨v, rfl, hk⟩ := hp e w1 h
    exact hk
def IsRound (w : World) (g : Nat) (r : N4) (e : Ending) (w' : World) : Prop := e = .returned (.tuple #[]) ∧ BxV w' g r ∧ Onl g w w'

theorem left13 (x : Int) (w : World) : Calls Tryd.prog 58 #[.int .u64 x, .int .u64 13] w fun e w' => e = .returned (.int .u64 (rotl 13 x)) ∧ w' = w := left_calls 13 x w (by simp)
theorem left16 (x : Int) (w : World) : Calls Tryd.prog 58 #[.int .u64 x, .int .u64 16] w fun e w' => e = .returned (.int .u64 (rotl 16 x)) ∧ w' = w := left_calls 16 x w (by simp)
theorem left17 (x : Int) (w : World) : Calls Tryd.prog 58 #[.int .u64 x, .int .u64 17] w fun e w' => e = .returned (.int .u64 (rotl 17 x)) ∧ w' = w := left_calls 17 x w (by simp)
theorem left21 (x : Int) (w : World) : Calls Tryd.prog 58 #[.int .u64 x, .int .u64 21] w fun e w' => e = .returned (.int .u64 (rotl 21 x)) ∧ w' = w := left_calls 21 x w (by simp)
theorem left32 (x : Int) (w : World) : Calls Tryd.prog 58 #[.int .u64 x, .int .u64 32] w fun e w' => e = .returned (.int .u64 (rotl 32 x)) ∧ w' = w := left_calls 32 x w (by simp)
set_option maxRecDepth 100000 in
set_option maxHeartbeats 16000000 in
theorem round_calls (a b c d : Int) (g : Nat) (w : World) (hX : Bx w g a b c d) : Calls Tryd.prog 49 #[.pointer (some ⟨g, 0, none⟩)] w (IsRound w g (stir (a, b, c, d))) := by
  have k0 := hX.k0
  have k1 := hX.k1
  have k2 := hX.k2
  have k3 := hX.k3
  have f0 := hX.fz 0
  have f1 := hX.fz 1
  have f2 := hX.fz 2
  have f3 := hX.fz 3
  have HX := Aside0.mk hX
  have HO := Aside0.mk (Onl.refl g w)
  clear hX
  go_enter Tryd.func49, Tryd.ntmps49
  go_wp2_with fail
  go_region
  go_wp2_with fail
  obtain ⟨x0, hx⟩ : ∃ x, x = IntKind.u64.wrap (a + b) := ⟨_, rfl⟩
  rw [← hx]
  have HP0 := Aside0.mk hx
  have hX := (HX.out.s0 (x := x0)).drew
  have hO := (HO.out.set (i := 0) (v := .int .u64 x0)).drew
  clear hx k0 k1 k2 k3 f0 f1 f2 f3 HX HO
  generalize (World.setCell w ⟨g, 0, none⟩ (.int .u64 x0)).drew = w0 at hX hO ⊢
  have k0 := hX.k0
  have k1 := hX.k1
  have k2 := hX.k2
  have k3 := hX.k3
  have f0 := hX.fz 0
  have f1 := hX.fz 1
  have f2 := hX.fz 2
  have f3 := hX.fz 3
  have HX := Aside0.mk hX
  have HO := Aside0.mk hO
  clear hX hO
  go_cut [0] from 2 (fun s0 wx => s0 = .pointer (some ⟨g, 0, none⟩) ∧ wx = (World.setCell w0 ⟨g, 1, none⟩ (.int .u64 (Go.bits .xor .u64 (rotl 13 b) x0))).drew)
  case first =>
    go_region_with (go_at_call 58; refine (left13 b _).mono ?_; rintro e1 w1 ⟨rfl, rfl⟩)
    all_goals (go_wp2_with fail; go_meet; exact ⟨rfl, rfl⟩)
  obtain ⟨rfl, rfl⟩ := hcut
  go_wp2_with fail
  obtain ⟨x1, hx⟩ : ∃ x, x = Go.bits .xor .u64 (rotl 13 b) x0 := ⟨_, rfl⟩
  rw [← hx]
  have HP1 := Aside0.mk hx
  have hX := (HX.out.s1 (x := x1)).drew
  have hO := (HO.out.set (i := 1) (v := .int .u64 x1)).drew
  clear hx k0 k1 k2 k3 f0 f1 f2 f3 HX HO
  generalize (World.setCell w0 ⟨g, 1, none⟩ (.int .u64 x1)).drew = w1 at hX hO ⊢
  have k0 := hX.k0
  have k1 := hX.k1
  have k2 := hX.k2
  have k3 := hX.k3
  have f0 := hX.fz 0
  have f1 := hX.fz 1
  have f2 := hX.fz 2
  have f3 := hX.fz 3
  have HX := Aside0.mk hX
  have HO := Aside0.mk hO
  clear hX hO
  go_cut [0] from 2 (fun s0 wx => s0 = .pointer (some ⟨g, 0, none⟩) ∧ wx = (World.setCell w1 ⟨g, 0, none⟩ (.int .u64 (rotl 32 x0))).drew)
  case first =>
    go_region_with (go_at_call 58; refine (left32 x0 _).mono ?_; rintro e1 w1 ⟨rfl, rfl⟩)
    all_goals (go_wp2_with fail; go_meet; exact ⟨rfl, rfl⟩)
  obtain ⟨rfl, rfl⟩ := hcut
  go_wp2_with fail
  obtain ⟨x2, hx⟩ : ∃ x, x = rotl 32 x0 := ⟨_, rfl⟩
  rw [← hx]
  have HP2 := Aside0.mk hx
  have hX := (HX.out.s0 (x := x2)).drew
  have hO := (HO.out.set (i := 0) (v := .int .u64 x2)).drew
  clear hx k0 k1 k2 k3 f0 f1 f2 f3 HX HO
  generalize (World.setCell w1 ⟨g, 0, none⟩ (.int .u64 x2)).drew = w2 at hX hO ⊢
  have k0 := hX.k0
  have k1 := hX.k1
  have k2 := hX.k2
  have k3 := hX.k3
  have f0 := hX.fz 0
  have f1 := hX.fz 1
  have f2 := hX.fz 2
  have f3 := hX.fz 3
  have HX := Aside0.mk hX
  have HO := Aside0.mk hO
  clear hX hO
  go_region
  go_wp2_with fail
  obtain ⟨x3, hx⟩ : ∃ x, x = IntKind.u64.wrap (c + d) := ⟨_, rfl⟩
  rw [← hx]
  have HP3 := Aside0.mk hx
  have hX := (HX.out.s2 (x := x3)).drew
  have hO := (HO.out.set (i := 2) (v := .int .u64 x3)).drew
  clear hx k0 k1 k2 k3 f0 f1 f2 f3 HX HO
  generalize (World.setCell w2 ⟨g, 2, none⟩ (.int .u64 x3)).drew = w3 at hX hO ⊢
  have k0 := hX.k0
  have k1 := hX.k1
  have k2 := hX.k2
  have k3 := hX.k3
  have f0 := hX.fz 0
  have f1 := hX.fz 1
  have f2 := hX.fz 2
  have f3 := hX.fz 3
  have HX := Aside0.mk hX
  have HO := Aside0.mk hO
  clear hX hO
  go_cut [0] from 2 (fun s0 wx => s0 = .pointer (some ⟨g, 0, none⟩) ∧ wx = (World.setCell w3 ⟨g, 3, none⟩ (.int .u64 (Go.bits .xor .u64 (rotl 16 d) x3))).drew)
  case first =>
    go_region_with (go_at_call 58; refine (left16 d _).mono ?_; rintro e1 w1 ⟨rfl, rfl⟩)
    all_goals (go_wp2_with fail; go_meet; exact ⟨rfl, rfl⟩)
  obtain ⟨rfl, rfl⟩ := hcut
  go_wp2_with fail
  obtain ⟨x4, hx⟩ : ∃ x, x = Go.bits .xor .u64 (rotl 16 d) x3 := ⟨_, rfl⟩
  rw [← hx]
  have HP4 := Aside0.mk hx
  have hX := (HX.out.s3 (x := x4)).drew
  have hO := (HO.out.set (i := 3) (v := .int .u64 x4)).drew
  clear hx k0 k1 k2 k3 f0 f1 f2 f3 HX HO
  generalize (World.setCell w3 ⟨g, 3, none⟩ (.int .u64 x4)).drew = w4 at hX hO ⊢
  have k0 := hX.k0
  have k1 := hX.k1
  have k2 := hX.k2
  have k3 := hX.k3
  have f0 := hX.fz 0
  have f1 := hX.fz 1
  have f2 := hX.fz 2
  have f3 := hX.fz 3
  have HX := Aside0.mk hX
  have HO := Aside0.mk hO
  clear hX hO
  go_region
  go_wp2_with fail
  obtain ⟨x5, hx⟩ : ∃ x, x = IntKind.u64.wrap (x2 + x4) := ⟨_, rfl⟩
  rw [← hx]
  have HP5 := Aside0.mk hx
  have hX := (HX.out.s0 (x := x5)).drew
  have hO := (HO.out.set (i := 0) (v := .int .u64 x5)).drew
  clear hx k0 k1 k2 k3 f0 f1 f2 f3 HX HO
  generalize (World.setCell w4 ⟨g, 0, none⟩ (.int .u64 x5)).drew = w5 at hX hO ⊢
  have k0 := hX.k0
  have k1 := hX.k1
  have k2 := hX.k2
  have k3 := hX.k3
  have f0 := hX.fz 0
  have f1 := hX.fz 1
  have f2 := hX.fz 2
  have f3 := hX.fz 3
  have HX := Aside0.mk hX
  have HO := Aside0.mk hO
  clear hX hO
  go_cut [0] from 2 (fun s0 wx => s0 = .pointer (some ⟨g, 0, none⟩) ∧ wx = (World.setCell w5 ⟨g, 3, none⟩ (.int .u64 (Go.bits .xor .u64 (rotl 21 x4) x5))).drew)
  case first =>
    go_region_with (go_at_call 58; refine (left21 x4 _).mono ?_; rintro e1 w1 ⟨rfl, rfl⟩)
    all_goals (go_wp2_with fail; go_meet; exact ⟨rfl, rfl⟩)
  obtain ⟨rfl, rfl⟩ := hcut
  go_wp2_with fail
  obtain ⟨x6, hx⟩ : ∃ x, x = Go.bits .xor .u64 (rotl 21 x4) x5 := ⟨_, rfl⟩
  rw [← hx]
  have HP6 := Aside0.mk hx
  have hX := (HX.out.s3 (x := x6)).drew
  have hO := (HO.out.set (i := 3) (v := .int .u64 x6)).drew
  clear hx k0 k1 k2 k3 f0 f1 f2 f3 HX HO
  generalize (World.setCell w5 ⟨g, 3, none⟩ (.int .u64 x6)).drew = w6 at hX hO ⊢
  have k0 := hX.k0
  have k1 := hX.k1
  have k2 := hX.k2
  have k3 := hX.k3
  have f0 := hX.fz 0
  have f1 := hX.fz 1
  have f2 := hX.fz 2
  have f3 := hX.fz 3
  have HX := Aside0.mk hX
  have HO := Aside0.mk hO
  clear hX hO
  go_region
  go_wp2_with fail
  obtain ⟨x7, hx⟩ : ∃ x, x = IntKind.u64.wrap (x3 + x1) := ⟨_, rfl⟩
  rw [← hx]
  have HP7 := Aside0.mk hx
  have hX := (HX.out.s2 (x := x7)).drew
  have hO := (HO.out.set (i := 2) (v := .int .u64 x7)).drew
  clear hx k0 k1 k2 k3 f0 f1 f2 f3 HX HO
  generalize (World.setCell w6 ⟨g, 2, none⟩ (.int .u64 x7)).drew = w7 at hX hO ⊢
  have k0 := hX.k0
  have k1 := hX.k1
  have k2 := hX.k2
  have k3 := hX.k3
  have f0 := hX.fz 0
  have f1 := hX.fz 1
  have f2 := hX.fz 2
  have f3 := hX.fz 3
  have HX := Aside0.mk hX
  have HO := Aside0.mk hO
  clear hX hO
  go_cut [0] from 2 (fun s0 wx => s0 = .pointer (some ⟨g, 0, none⟩) ∧ wx = (World.setCell w7 ⟨g, 1, none⟩ (.int .u64 (Go.bits .xor .u64 (rotl 17 x1) x7))).drew)
  case first =>
    go_region_with (go_at_call 58; refine (left17 x1 _).mono ?_; rintro e1 w1 ⟨rfl, rfl⟩)
    all_goals (go_wp2_with fail; go_meet; exact ⟨rfl, rfl⟩)
  obtain ⟨rfl, rfl⟩ := hcut
  go_wp2_with fail
  obtain ⟨x8, hx⟩ : ∃ x, x = Go.bits .xor .u64 (rotl 17 x1) x7 := ⟨_, rfl⟩
  rw [← hx]
  have HP8 := Aside0.mk hx
  have hX := (HX.out.s1 (x := x8)).drew
  have hO := (HO.out.set (i := 1) (v := .int .u64 x8)).drew
  clear hx k0 k1 k2 k3 f0 f1 f2 f3 HX HO
  generalize (World.setCell w7 ⟨g, 1, none⟩ (.int .u64 x8)).drew = w8 at hX hO ⊢
  have k0 := hX.k0
  have k1 := hX.k1
  have k2 := hX.k2
  have k3 := hX.k3
  have f0 := hX.fz 0
  have f1 := hX.fz 1
  have f2 := hX.fz 2
  have f3 := hX.fz 3
  have HX := Aside0.mk hX
  have HO := Aside0.mk hO
  clear hX hO
  go_region_with (go_at_call 58; refine (left32 x7 _).mono ?_; rintro e1 w1 ⟨rfl, rfl⟩)
  go_wp2_with fail
  obtain ⟨x9, hx⟩ : ∃ x, x = rotl 32 x7 := ⟨_, rfl⟩
  rw [← hx]
  have HP9 := Aside0.mk hx
  have hX := (HX.out.s2 (x := x9)).drew
  have hO := (HO.out.set (i := 2) (v := .int .u64 x9)).drew
  clear hx k0 k1 k2 k3 f0 f1 f2 f3 HX HO
  generalize (World.setCell w8 ⟨g, 2, none⟩ (.int .u64 x9)).drew = w9 at hX hO ⊢
  have k0 := hX.k0
  have k1 := hX.k1
  have k2 := hX.k2
  have k3 := hX.k3
  have f0 := hX.fz 0
  have f1 := hX.fz 1
  have f2 := hX.fz 2
  have f3 := hX.fz 3
  have HX := Aside0.mk hX
  have HO := Aside0.mk hO
  clear hX hO
  go_wp2_with fail
  refine bodyPost_ret (results_none rfl _ _ _) rfl ⟨rfl, ?_, HO.out⟩
  have e : stir (a, b, c, d) = (x5, x8, x9, x6) := by
    rw [HP9.out, HP8.out, HP7.out, HP6.out, HP5.out, HP4.out, HP3.out, HP2.out, HP1.out, HP0.out]
    rfl
  rw [e]
  exact HX.out
end Go.Proofs.YtfhkkojdaejnjaaDoor.Gcs
