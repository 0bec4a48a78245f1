/-
  container/list, walked: the ring of a list.
-/
import Derived.Test.YtkmcoaidlnaliaaHand
import Derived.Test.YtkmcoaidlnaliaaPFnPursex1
namespace Go.Proofs.Ytkmcoaidlnaliaa.Purse
open Go.RowKit Go.Proofs.Ytkmcoaidlnaliaa.Hand Go.Proofs.YtkmcoaidlnaliaaW.PrintWords Go.Proofs.YtkmcoaidlnaliaaW.PrintLast Go.Proofs.YtkmcoaidlnaliaaW.PrintMore

abbrev P (b : Nat) : Value := .pointer (some ⟨b, 0, none⟩)

set_option maxHeartbeats 8000000 in
theorem ins_first (L e n : Nat) (w : World) (h1 : L ≠ e)
  (c1 : w.cell? ⟨L, 0, none⟩ = some (P L)) (c2 : w.cell? ⟨L, 4, none⟩ = some (.int .i64 n)) (hn : (n : Int) < 100)
  (c3 : w.cell? ⟨L, 1, none⟩ = some (P L)) (d1 : w.frozen? ⟨L, 0, none⟩ = false) (d2 : w.frozen? ⟨L, 4, none⟩ = false) (d3 : w.frozen? ⟨L, 1, none⟩ = false)
  (e0 : w.cell? ⟨e, 0, none⟩ = some (.pointer none)) (e1 : w.cell? ⟨e, 1, none⟩ = some (.pointer none)) (e2 : w.cell? ⟨e, 2, none⟩ = some (.pointer none))
  (f0 : w.frozen? ⟨e, 0, none⟩ = false) (f1 : w.frozen? ⟨e, 1, none⟩ = false) (f2 : w.frozen? ⟨e, 2, none⟩ = false) :
   Calls Try.prog 30 #[P L, P e, P L] w fun en w' => en = .returned (P e) ∧ w' = (((((w.setCell ⟨e, 1, none⟩ (P L)).setCell ⟨e, 0, none⟩ (P L)).setCell ⟨L, 0, none⟩ (P e)).setCell ⟨L, 1, none⟩ (P e)).setCell ⟨e, 2, none⟩ (P L)).setCell ⟨L, 4, none⟩ (.int .i64 (n + 1 : Nat)) := by
  go_enter Try.func30, Try.ntmps30
  go_wp2
  go_ret
  exact ⟨rfl, rfl⟩
set_option maxHeartbeats 8000000 in
theorem ins_last (L e a n : Nat) (w : World) (h1 : L ≠ e) (h2 : a ≠ e) (h4 : a ≠ L)
  (c1 : w.cell? ⟨a, 0, none⟩ = some (P L)) (c2 : w.cell? ⟨L, 4, none⟩ = some (.int .i64 n)) (hn : (n : Int) < 100)
  (c3 : w.cell? ⟨L, 1, none⟩ = some (P a)) (d1 : w.frozen? ⟨a, 0, none⟩ = false) (d2 : w.frozen? ⟨L, 4, none⟩ = false) (d3 : w.frozen? ⟨L, 1, none⟩ = false)
  (e0 : w.cell? ⟨e, 0, none⟩ = some (.pointer none)) (e1 : w.cell? ⟨e, 1, none⟩ = some (.pointer none)) (e2 : w.cell? ⟨e, 2, none⟩ = some (.pointer none))
  (f0 : w.frozen? ⟨e, 0, none⟩ = false) (f1 : w.frozen? ⟨e, 1, none⟩ = false) (f2 : w.frozen? ⟨e, 2, none⟩ = false) :
   Calls Try.prog 30 #[P L, P e, P a] w fun en w' => en = .returned (P e) ∧ w' = (((((w.setCell ⟨e, 1, none⟩ (P a)).setCell ⟨e, 0, none⟩ (P L)).setCell ⟨a, 0, none⟩ (P e)).setCell ⟨L, 1, none⟩ (P e)).setCell ⟨e, 2, none⟩ (P L)).setCell ⟨L, 4, none⟩ (.int .i64 (n + 1 : Nat)) := by
  go_enter Try.func30, Try.ntmps30
  go_wp2
  go_ret
  exact ⟨rfl, rfl⟩

/-- The world behind a removal: z ahead of e, c behind it (L where none is). -/
def remW (w : World) (L e z c n : Nat) : World := (((((w.setCell ⟨z, 0, none⟩ (P c)).setCell ⟨c, 1, none⟩ (P z)).setCell ⟨e, 0, none⟩ (.pointer none)).setCell ⟨e, 1, none⟩ (.pointer none)).setCell ⟨e, 2, none⟩ (.pointer none)).setCell ⟨L, 4, none⟩ (.int .i64 ((n : Int) - 1))
def IsRem (w : World) (L e z c n : Nat) (en : Ending) (w' : World) : Prop := en = .returned (.tuple #[]) ∧ w' = (remW w L e z c n).drew.drew
set_option maxHeartbeats 8000000 in
theorem rem_calls (L e z c n : Nat) (w : World) (h1 : L ≠ e) (h2 : z ≠ e) (h3 : c ≠ e) (hzc : z = L ∧ c = L ∨ z = L ∧ c ≠ L ∨ z ≠ L ∧ c = L) (y0 y1 : Value)
  (c0 : w.cell? ⟨e, 0, none⟩ = some (P c)) (c1 : w.cell? ⟨e, 1, none⟩ = some (P z)) (c2 : w.cell? ⟨e, 2, none⟩ = some (P L)) (c4 : w.cell? ⟨L, 4, none⟩ = some (.int .i64 n)) (hn0 : 1 ≤ (n : Int)) (hn : (n : Int) < 100)
  (k0 : w.cell? ⟨z, 0, none⟩ = some y0) (k1 : w.cell? ⟨c, 1, none⟩ = some y1) (d0 : w.frozen? ⟨z, 0, none⟩ = false) (d1 : w.frozen? ⟨c, 1, none⟩ = false) (d2 : w.frozen? ⟨L, 4, none⟩ = false)
  (f0 : w.frozen? ⟨e, 0, none⟩ = false) (f1 : w.frozen? ⟨e, 1, none⟩ = false) (f2 : w.frozen? ⟨e, 2, none⟩ = false) :
   Calls Try.prog 31 #[P L, P e] w (IsRem w L e z c n) := by
  rcases hzc with ⟨rfl, rfl⟩ | ⟨rfl, h5⟩ | ⟨h4, rfl⟩
  all_goals
    go_enter Try.func31, Try.ntmps31
    go_wp2
    go_region
    all_goals go_wp2
    all_goals go_region
    all_goals go_wp2
    all_goals
      refine bodyPost_end (results_none rfl _ _ _) rfl ?_
      unfold IsRem remW
      exact ⟨by with_reducible rfl, by with_reducible rfl⟩
end Go.Proofs.Ytkmcoaidlnaliaa.Purse
