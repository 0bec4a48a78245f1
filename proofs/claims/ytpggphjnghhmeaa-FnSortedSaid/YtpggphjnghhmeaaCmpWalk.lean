/-
  zzCompare.
-/
import Derived.Test.YtpggphjnghhmeaaBase
namespace Go.Proofs.Ytpggphjnghhmeaa.Srt
open Go.RowKit Go.Proofs.Ytpggphjnghhmeaa.Hand Go.Proofs.Ytpggphjnghhmeaa.PFnSorted Go.Proofs.YtpggphjnghhmeaaW.PrintWords Go.Proofs.YtpggphjnghhmeaaW.PrintLast Go.Proofs.YtpggphjnghhmeaaW.PrintMore

theorem getD_get {x : List Int} {i : Nat} (h : i < x.length) : (x.map (Value.int .u8))[i]? = some (.int .u8 (x.getD i 0)) := by
  rw [List.getElem?_map, List.getD_eq_getElem?_getD, List.getElem?_eq_getElem h]; rfl
theorem drewN_drew (w : World) (q : Nat) : (w.drewN q).drew = w.drewN (q + 1) := rfl
theorem two_draws (w : World) (q a b : Nat) : ∃ m, ((w.drewN q).drewN a).drewN b = w.drewN m := ⟨q + (a + b), by rw [World.drewN_drewN, World.drewN_drewN]⟩
def IsCmp (w : World) (r : Int) (e : Ending) (w' : World) : Prop := e = .returned (.int .i64 r) ∧ ∃ q, w' = w.drewN q
set_option maxRecDepth 100000 in
set_option maxHeartbeats 8000000 in
theorem cmp_calls (A1 : Option Addr) (n1 c1 : Nat) (x : List Int) (A2 : Option Addr) (n2 c2 : Nat) (y : List Int) (w : World) (h1 : Kd.C (Kd.int .u8) w A1 n1 x) (h2 : Kd.C (Kd.int .u8) w A2 n2 y) (hm1 : n1 ≤ 1000000) (hm2 : n2 ≤ 1000000) :
    Calls Try.prog 58 #[.slice A1 n1 c1, .slice A2 n2 c2] w (IsCmp w (cmpB x y)) := by
  have hl1 : x.length = n1 := h1.1
  have hl2 : y.length = n2 := h2.1
  have H1 := Aside0.mk h1
  have H2 := Aside0.mk h2
  clear h1 h2
  have HL1 := Aside0.mk hl1
  have HL2 := Aside0.mk hl2
  clear hl1 hl2
  go_enter Try.func58, Try.ntmps58
  go_wp2_with fail
  go_loopw [5] (fun v5 wr => ∃ k : Nat, v5 = .int .i64 k ∧ k ≤ n1 ∧ k ≤ n2 ∧ Aside0 (∀ i, i < k → x.getD i 0 = y.getD i 0) ∧ Aside0 (∃ q, wr = w.drewN q)) (fun v5 _ => n1 - (intOf v5).toNat)
  case atStart => exact ⟨0, rfl, Nat.zero_le _, Nat.zero_le _, ⟨fun i hi => absurd hi (Nat.not_lt_zero _)⟩, ⟨0, rfl⟩⟩
  case round =>
    obtain ⟨k, rfl, hk1, hk2, HE, HQ⟩ := hrel
    obtain ⟨q, rfl⟩ := HQ.out
    clear HQ
    have HR : Aside0 (cmpB x y = cmpB (x.drop k) (y.drop k)) := ⟨cmpB_skip x y k (by rw [HL1.out]; exact hk1) (by rw [HL2.out]; exact hk2) HE.out⟩
    by_cases hb : k < n1 ∧ k < n2
    · obtain ⟨hb1, hb2⟩ := hb
      obtain ⟨ad1, e1, hc1⟩ := C_cells H1.out (by omega)
      obtain ⟨ad2, e2, hc2⟩ := C_cells H2.out (by omega)
      subst e1; subst e2
      have k1 := hc1 k _ (getD_get (by rw [HL1.out]; exact hb1))
      have k2 := hc2 k _ (getD_get (by rw [HL2.out]; exact hb2))
      have HX : Aside0 (x.drop k = x.getD k 0 :: x.drop (k + 1)) := ⟨by have := HL1.out; rw [List.drop_eq_getElem_cons (by omega), List.getD_eq_getElem?_getD, List.getElem?_eq_getElem (by omega)]; rfl⟩
      have HY : Aside0 (y.drop k = y.getD k 0 :: y.drop (k + 1)) := ⟨by have := HL2.out; rw [List.drop_eq_getElem_cons (by omega), List.getD_eq_getElem?_getD, List.getElem?_eq_getElem (by omega)]; rfl⟩
      have HEQ : Aside0 (x.getD k 0 = y.getD k 0 → ∀ i, i < k + 1 → x.getD i 0 = y.getD i 0) := ⟨fun h i hi => by
        by_cases e : i = k
        · subst e; exact h
        · exact HE.out i (by omega)⟩
      have i0 : (0 : Int) ≤ (k : Int) := by omega
      have i1 : (k : Int) < (n1 : Int) := by omega
      have i2 : (k : Int) < (n2 : Int) := by omega
      clear hc1 hc2
      generalize x.getD k 0 = a at k1 HX HEQ
      generalize y.getD k 0 = b at k2 HY HEQ
      by_cases hab : a = b
      · subst hab
        go_wp2_with fail
        go_quiet (fail)
        go_wp2_with fail
        go_roundw
        case rel => exact ⟨k + 1, rfl, hb1, hb2, ⟨by first | exact HEQ.out rfl | exact HEQ.out trivial⟩, ⟨_, rfl⟩⟩
        case measure => simp only [intOf]; omega
      · have HC : Aside0 (cmpB x y = if a < b then -1 else 1) := ⟨by rw [HR.out, HX.out, HY.out, cmpB, if_neg hab]⟩
        clear HEQ
        by_cases hlt : a < b
        · have HC1 : Aside0 (cmpB x y = -1) := ⟨by rw [HC.out, if_pos hlt]⟩
          go_wp2_with fail
          go_quiet (fail)
          go_wp2_with fail
          go_quiet (fail)
          go_wp2_with fail
          refine bodyPost_ret (results_tmp rfl _ _ _) rfl ⟨by rw [HC1.out]; rfl, ?_⟩
          exact two_draws w q _ _
        · have HC1 : Aside0 (cmpB x y = 1) := ⟨by rw [HC.out, if_neg hlt]⟩
          go_wp2_with fail
          go_quiet (fail)
          go_wp2_with fail
          go_quiet (fail)
          go_wp2_with fail
          refine bodyPost_ret (results_tmp rfl _ _ _) rfl ⟨by rw [HC1.out]; rfl, ?_⟩
          exact two_draws w q _ _
    · by_cases e1 : k = n1
      · subst e1
        have HX : Aside0 (x.drop k = []) := ⟨List.drop_eq_nil_of_le (by rw [HL1.out]; exact Nat.le_refl _)⟩
        by_cases e2 : k = n2
        · subst e2
          have HC1 : Aside0 (cmpB x y = 0) := ⟨by rw [HR.out, HX.out, List.drop_eq_nil_of_le (by rw [HL2.out]; exact Nat.le_refl _)]; rfl⟩
          go_wp2_with fail
          exact bodyPost_ret (results_tmp rfl _ _ _) rfl ⟨by rw [HC1.out]; rfl, _, rfl⟩
        · have hlt : k < n2 := by omega
          have HC1 : Aside0 (cmpB x y = -1) := ⟨by rw [HR.out, HX.out, List.drop_eq_getElem_cons (by rw [HL2.out]; exact hlt)]; rfl⟩
          go_wp2_with fail
          exact bodyPost_ret (results_tmp rfl _ _ _) rfl ⟨by rw [HC1.out]; rfl, _, rfl⟩
      · have e2 : k = n2 := by omega
        subst e2
        have hlt : k < n1 := by omega
        have HY : Aside0 (y.drop k = []) := ⟨List.drop_eq_nil_of_le (by rw [HL2.out]; exact Nat.le_refl _)⟩
        have HC1 : Aside0 (cmpB x y = 1) := ⟨by rw [HR.out, HY.out, List.drop_eq_getElem_cons (by rw [HL1.out]; exact hlt)]; rfl⟩
        go_wp2_with fail
        exact bodyPost_ret (results_tmp rfl _ _ _) rfl ⟨by rw [HC1.out]; rfl, _, rfl⟩
theorem cmp_quiet (A1 : Option Addr) (n1 c1 : Nat) (x : List Int) (A2 : Option Addr) (n2 c2 : Nat) (y : List Int) (w : World) (h1 : Kd.C (Kd.int .u8) w A1 n1 x) (h2 : Kd.C (Kd.int .u8) w A2 n2 y) (hm1 : n1 ≤ 1000000) (hm2 : n2 ≤ 1000000) (m : Nat) :
    Calls Try.prog 58 #[.slice A1 n1 c1, .slice A2 n2 c2] (w.drewN m) fun e w'' => e = .returned (.int .i64 (cmpB x y)) ∧ ∃ q, w'' = w.drewN q :=
  (cmp_calls A1 n1 c1 x A2 n2 c2 y (w.drewN m) (Kd.C_drewN h1 m) (Kd.C_drewN h2 m) hm1 hm2).mono fun e w' ⟨a, q, b⟩ => ⟨a, m + q, by rw [b, World.drewN_drewN]⟩
end Go.Proofs.Ytpggphjnghhmeaa.Srt
