/-
  CoinSet.PushCoin and CoinSet.removeElement, walked: the totals.
-/
import Derived.Test.YtkmcoaidlnaliaaPushWalk
import Derived.LaidEqlPtr
namespace Go.Proofs.Ytkmcoaidlnaliaa.Purse
open Go.RowKit Go.Proofs.Ytkmcoaidlnaliaa.Hand Go.Proofs.YtkmcoaidlnaliaaW.PrintWords Go.Proofs.YtkmcoaidlnaliaaW.PrintLast Go.Proofs.YtkmcoaidlnaliaaW.PrintMore

/-- The set's own cells. -/
structure SetAt (C L : Nat) (w : World) (tv ta : Int) : Prop where
  c0 : w.cell? ⟨C, 0, none⟩ = some (P L)
  c1 : w.cell? ⟨C, 1, none⟩ = some (.int .i64 tv)
  c2 : w.cell? ⟨C, 2, none⟩ = some (.int .i64 ta)
  f1 : w.frozen? ⟨C, 1, none⟩ = false
  f2 : w.frozen? ⟨C, 2, none⟩ = false
theorem SetAt.below {C L : Nat} {w w1 : World} {tv ta : Int} (h : SetAt C L w tv ta) (hb : Below w.heap.size w w1) : SetAt C L w1 tv ta :=
  ⟨pw_cell_below hb h.c0, pw_cell_below hb h.c1, pw_cell_below hb h.c2, fz_below hb h.c0 h.f1, fz_below hb h.c0 h.f2⟩
theorem SetAt.eq {C L : Nat} {w w1 : World} {tv ta : Int} (h : SetAt C L w tv ta) (hb : w1.heap[C]? = w.heap[C]?) : SetAt C L w1 tv ta :=
  ⟨(cell_eq hb 0).trans h.c0, (cell_eq hb 1).trans h.c1, (cell_eq hb 2).trans h.c2, (fz_eq hb 1).trans h.f1, (fz_eq hb 2).trans h.f2⟩
theorem SetAt.set1 {C L : Nat} {w : World} {tv ta : Int} (h : SetAt C L w tv ta) (x : Int) : SetAt C L (w.setCell ⟨C, 1, none⟩ (.int .i64 x)) x ta :=
  ⟨by rw [rd_other _ C 1 C 0 _ (.inr (by decide))]; exact h.c0, rd_same _ h.c1, by rw [rd_other _ C 1 C 2 _ (.inr (by decide))]; exact h.c2, by simpa using h.f1, by simpa using h.f2⟩
theorem SetAt.set2 {C L : Nat} {w : World} {tv ta : Int} (h : SetAt C L w tv ta) (x : Int) : SetAt C L (w.setCell ⟨C, 2, none⟩ (.int .i64 x)) tv x :=
  ⟨by rw [rd_other _ C 2 C 0 _ (.inr (by decide))]; exact h.c0, by rw [rd_other _ C 2 C 1 _ (.inr (by decide))]; exact h.c1, rd_same _ h.c2, by simpa using h.f1, by simpa using h.f2⟩

def Tot (C L : Nat) (Q : World → Prop) (tv ta : Int) (en : Ending) (r : Value) (w' : World) : Prop := en = .returned r ∧ ∃ w1, Q w1 ∧ Fr [C] w1 w' ∧ SetAt C L w' tv ta

set_option maxRecDepth 100000 in
set_option maxHeartbeats 8000000 in
theorem push_calls (C L e : Nat) (v c a tv ta : Int) (h0 : 0 ≤ v) (h1 : v ≤ 1000000) (h2 : 0 ≤ c) (h3 : c ≤ 10000) (ht0 : 0 ≤ tv) (ht1 : tv ≤ 100000000) (hu0 : 0 ≤ ta) (hu1 : ta ≤ 1000000000000) (w : World) (Q : World → Prop)
    (k0 : w.cell? ⟨C, 0, none⟩ = some (P L))
    (HPB : Aside0 (Calls Try.prog 20 #[P L, coinV v c a] w fun en w' => en = .returned (P e) ∧ Q w')) (HQ : Aside0 (∀ w1, Q w1 → SetAt C L w1 tv ta)) :
    Calls Try.prog 12 #[P C, coinV v c a] w fun en w' => Tot C L Q (tv + v) (ta + c * v) en (.tuple #[]) w' := by
  have hm1 := mValue v c a
  have hm2 := mAge v c a
  have hcv0 : 0 ≤ c * v := Int.mul_nonneg h2 h0
  have hcv1 : c * v ≤ 10000 * 1000000 := Int.mul_le_mul h3 h1 h0 (by omega)
  have HAG : Aside0 (∀ w, Calls Try.prog 50 #[.agg #[.int .i64 v, .int .i64 c, .int .i64 a]] w fun e w' => e = .returned (.int .i64 (c * v)) ∧ Below w.heap.size w w') := ⟨fun w => age_calls v c a h0 h1 h2 h3 w⟩
  generalize c * v = m at hcv0 hcv1 HAG ⊢
  go_enter Try.func12, Try.ntmps12
  go_wp2_with (first | (go_at_call 20; refine HPB.out.mono ?_; rintro e1 w1 ⟨rfl, hq⟩; have HQ1 := Aside0.mk hq; have HS1 := Aside0.mk (HQ.out w1 hq); have k1 := HS1.out.c1; have f1 := HS1.out.f1; clear hq) | fail)
  go_region_with (first | (go_at_call 49; refine (value_calls _ _ _ _).mono ?_; rintro e2 w2 ⟨rfl, b2⟩; have B2 : Aside0 (Below w1.heap.size w1 w2) := ⟨below_step (by first | exact below_drew (Below.refl _ _) | exact Below.refl _ _) b2⟩; have k2 := pw_cell_below B2.out k1; have f2 := fz_below B2.out k1 f1; clear b2))
  all_goals
    have ew : IntKind.i64.wrap (tv + v) = tv + v := by rw [IntKind.wrap_i64]; omega
    rw [ew]
    have HS2 := Aside0.mk ((HS1.out.below B2.out).set1 (tv + v))
    have HF2 := Aside0.mk ((Fr.of_below (S := [C]) B2.out).set (.head _) 1 (.int .i64 (tv + v)))
    clear k1 f1 k2 f2 ew HS1 B2
    revert HS2 HF2
    generalize w2.setCell ⟨C, 1, none⟩ (.int .i64 (tv + v)) = W
    intro HS2 HF2
    have k1 := HS2.out.c2
    have f1 := HS2.out.f2
    go_wp2
    go_region_with (first | (go_at_call 50; refine (HAG.out _).mono ?_; rintro e2 w3 ⟨rfl, b3⟩; have B3 : Aside0 (Below W.heap.size W w3) := ⟨below_step (by first | exact below_drew (Below.refl _ _) | exact Below.refl _ _) b3⟩; have k2 := pw_cell_below B3.out k1; have f2 := fz_below B3.out k1 f1; clear b3))
    all_goals
      have ew : IntKind.i64.wrap (ta + m) = ta + m := by rw [IntKind.wrap_i64]; omega
      rw [ew]
      have HS3 := Aside0.mk ((HS2.out.below B3.out).set2 (ta + m))
      have HF3 := Aside0.mk (HF2.out.trans ((Fr.of_below (S := [C]) B3.out).set (.head _) 2 (.int .i64 (ta + m))))
      clear k1 f1 k2 f2 ew HS2 B3 HF2
      revert HS3 HF3
      generalize w3.setCell ⟨C, 2, none⟩ (.int .i64 (ta + m)) = W3
      intro HS3 HF3
      go_wp2
      go_end0
      exact ⟨rfl, w1, HQ1.out, HF3.out, HS3.out⟩

theorem asCoin (v c a : Int) : ∀ w, Sem.run Try.prog (Instr.typeAssert (coinV v c a) 20 40 false) w = .ok (coinV v c a) w := fun w => by kernel_rfl
theorem eqP (L : Nat) : ∀ w, Sem.run Try.prog (binOp BinOp.eql 66 (P L) (P L)) w = .ok (.bool true) w := fun w => by
  obtain ⟨j, hj⟩ : ∃ j, Try.prog.info? 78 = some j := Option.isSome_iff_exists.1 (by kernel_rfl)
  exact run_eql_ptr_same w _ Try.underlying66 hj
theorem drew2_cell (X : World) (p : Addr) : X.drew.drew.cell? p = X.cell? p := rfl
set_option maxRecDepth 100000 in
set_option maxHeartbeats 4000000 in
/-- Remove, out of remove. -/
theorem remove_calls (L e z c n : Nat) (v cc a : Int) (w : World) (c2 : w.cell? ⟨e, 2, none⟩ = some (P L)) (c3 : w.cell? ⟨e, 3, none⟩ = some (coinV v cc a)) (H : Aside0 (Calls Try.prog 31 #[P L, P e] w (IsRem w L e z c n))) :
    Calls Try.prog 29 #[P L, P e] w fun en w' => en = .returned (coinV v cc a) ∧ w' = (remW w L e z c n).drew.drew := by
  have c4 : Aside0 ((remW w L e z c n).drew.drew.cell? ⟨e, 3, none⟩ = some (coinV v cc a)) := ⟨(drew2_cell _ _).trans ((remW_x3 e).trans c3)⟩
  obtain ⟨W, hW⟩ : ∃ W, W = (remW w L e z c n).drew.drew := ⟨_, rfl⟩
  have H2 : Aside0 (Calls Try.prog 31 #[P L, P e] w fun en w' => en = .returned (.tuple #[]) ∧ w' = W) := ⟨H.out.mono fun en w' h => by
    unfold IsRem at h
    exact ⟨h.1, by rw [h.2, hW]⟩⟩
  rw [← hW] at c4 ⊢
  have c5 := c4.out
  have hq := eqP L
  clear H hW c4
  go_enter Try.func29, Try.ntmps29
  go_wp2_with (first | (go_at_call 31; refine H2.out.mono ?_; rintro e1 w1 ⟨rfl, rfl⟩) | fail)
  go_ret
  exact ⟨rfl, rfl⟩

set_option maxRecDepth 100000 in
set_option maxHeartbeats 8000000 in
theorem relem_calls (C L e : Nat) (v c a tv ta : Int) (h0 : 0 ≤ v) (h1 : v ≤ 1000000) (h2 : 0 ≤ c) (h3 : c ≤ 10000) (ht0 : 0 ≤ tv) (ht1 : tv ≤ 100000000) (hu0 : 0 ≤ ta) (hu1 : ta ≤ 1000000000000) (w : World) (Q : World → Prop)
    (k0 : w.cell? ⟨C, 0, none⟩ = some (P L)) (k3 : w.cell? ⟨e, 3, none⟩ = some (coinV v c a))
    (HPB : Aside0 (Calls Try.prog 29 #[P L, P e] w fun en w' => en = .returned (coinV v c a) ∧ Q w')) (HQ : Aside0 (∀ w1, Q w1 → SetAt C L w1 tv ta)) :
    Calls Try.prog 22 #[P C, P e] w fun en w' => Tot C L Q (tv - v) (ta - c * v) en (coinV v c a) w' := by
  have hm1 := mValue v c a
  have hm2 := mAge v c a
  have hcv0 : 0 ≤ c * v := Int.mul_nonneg h2 h0
  have hcv1 : c * v ≤ 10000 * 1000000 := Int.mul_le_mul h3 h1 h0 (by omega)
  have HAG : Aside0 (∀ w, Calls Try.prog 50 #[.agg #[.int .i64 v, .int .i64 c, .int .i64 a]] w fun e w' => e = .returned (.int .i64 (c * v)) ∧ Below w.heap.size w w') := ⟨fun w => age_calls v c a h0 h1 h2 h3 w⟩
  have hta := asCoin v c a
  generalize c * v = m at hcv0 hcv1 HAG ⊢
  go_enter Try.func22, Try.ntmps22
  go_wp2_with (first | (go_at_call 29; refine HPB.out.mono ?_; rintro e1 w1 ⟨rfl, hq⟩; have HQ1 := Aside0.mk hq; have HS1 := Aside0.mk (HQ.out w1 hq); have k1 := HS1.out.c1; have f1 := HS1.out.f1; clear hq) | fail)
  go_region_with (first | (go_at_call 49; refine (value_calls _ _ _ _).mono ?_; rintro e2 w2 ⟨rfl, b2⟩; have B2 : Aside0 (Below w1.heap.size w1 w2) := ⟨below_step (by first | exact below_drew (Below.refl _ _) | exact Below.refl _ _) b2⟩; have k2 := pw_cell_below B2.out k1; have f2 := fz_below B2.out k1 f1; clear b2))
  all_goals
    have ew : IntKind.i64.wrap (tv - v) = tv - v := by rw [IntKind.wrap_i64]; omega
    rw [ew]
    have HS2 := Aside0.mk ((HS1.out.below B2.out).set1 (tv - v))
    have HF2 := Aside0.mk ((Fr.of_below (S := [C]) B2.out).set (.head _) 1 (.int .i64 (tv - v)))
    clear k1 f1 k2 f2 ew HS1 B2
    revert HS2 HF2
    generalize w2.setCell ⟨C, 1, none⟩ (.int .i64 (tv - v)) = W
    intro HS2 HF2
    have k1 := HS2.out.c2
    have f1 := HS2.out.f2
    go_wp2
    go_region_with (first | (go_at_call 50; refine (HAG.out _).mono ?_; rintro e2 w3 ⟨rfl, b3⟩; have B3 : Aside0 (Below W.heap.size W w3) := ⟨below_step (by first | exact below_drew (Below.refl _ _) | exact Below.refl _ _) b3⟩; have k2 := pw_cell_below B3.out k1; have f2 := fz_below B3.out k1 f1; clear b3))
    all_goals
      have ew : IntKind.i64.wrap (ta - m) = ta - m := by rw [IntKind.wrap_i64]; omega
      rw [ew]
      have HS3 := Aside0.mk ((HS2.out.below B3.out).set2 (ta - m))
      have HF3 := Aside0.mk (HF2.out.trans ((Fr.of_below (S := [C]) B3.out).set (.head _) 2 (.int .i64 (ta - m))))
      clear k1 f1 k2 f2 ew HS2 B3 HF2
      revert HS3 HF3
      generalize w3.setCell ⟨C, 2, none⟩ (.int .i64 (ta - m)) = W3
      intro HS3 HF3
      go_wp2
      go_ret
      exact ⟨rfl, w1, HQ1.out, HF3.out, HS3.out⟩
end Go.Proofs.Ytkmcoaidlnaliaa.Purse
