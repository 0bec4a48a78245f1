/-
  The two Swaps, and Len.
-/
import Derived.Test.YtpggphjnghhmeaaLessI
namespace Go.Proofs.Ytpggphjnghhmeaa.Srt
open Go.RowKit Go.Proofs.Ytpggphjnghhmeaa.Hand Go.Proofs.Ytpggphjnghhmeaa.PFnSorted Go.Proofs.YtpggphjnghhmeaaW.PrintWords Go.Proofs.YtpggphjnghhmeaaW.PrintLast Go.Proofs.YtpggphjnghhmeaaW.PrintMore

/-- A row of pointers. -/
structure Ptr {α : Type} (d : Kd α) : Prop where
  sz : d.sz = 1
  ptr : ∀ {w base ok x cs}, d.M w base ok x cs → ∃ b, cs = [.pointer (some ⟨b, 0, none⟩)]
theorem ptrI : Ptr kPI := ⟨rfl, fun ⟨b, h, _⟩ => ⟨b, h⟩⟩
theorem ptrO : Ptr kPO := ⟨rfl, fun ⟨b, _, h, _⟩ => ⟨b, h⟩⟩
theorem ptr_at {α : Type} [Inhabited α] {d : Kd α} (hd : Ptr d) {e : Nat} {w : World} {base : Nat} {ok : Nat → Prop} {g n c : Nat} {ys : List α} (h : d.R e w base ok (.slice (some ⟨g, 0, none⟩) n c) ys) {i : Nat} (hi : i < n) :
    ∃ b, w.cell? ⟨g, i, none⟩ = some (.pointer (some ⟨b, 0, none⟩)) ∧ w.frozen? ⟨g, i, none⟩ = false := by
  obtain ⟨cs, hM, hl, hr, ht⟩ := R_at h hi
  obtain ⟨b, rfl⟩ := hd.ptr hM
  rw [hd.sz, Nat.mul_one] at hr ht
  exact ⟨b, hr 0 _ rfl, (ht 0 (by omega)).2⟩
/-- The neighbours' cells, exchanged. -/
theorem ptr_swap {α : Type} [Inhabited α] {d : Kd α} (hd : Ptr d) {e : Nat} {w : World} {base : Nat} {ok : Nat → Prop} {g n c : Nat} {ys : List α} (h : d.R e w base ok (.slice (some ⟨g, 0, none⟩) n c) ys) {k : Nat} (hk : k + 1 < n) {a b : Value}
    (ha : w.cell? ⟨g, k, none⟩ = some a) (hb : w.cell? ⟨g, k + 1, none⟩ = some b) : d.R e (((w.setCell ⟨g, k + 1, none⟩ a).setCell ⟨g, k, none⟩ b).drew) base ok (.slice (some ⟨g, 0, none⟩) n c) (sw ys k) := by
  obtain ⟨hl, hg, cur, hh, hn, hz, _⟩ := R_form h
  rw [hd.sz, Nat.mul_one] at hz
  rw [blk_cell hh] at ha hb
  refine R_swapped h hk hh (show (((w.setCell ⟨g, k + 1, none⟩ a).setCell ⟨g, k, none⟩ b).drew).heap[g]? = _ from blk_set (i := k) (y := b) (blk_set (i := k + 1) (y := a) hh)) (fun j hj => ?_) (by simp) (fun p => ?_)
  · exact (Below.heap_setCell (w.setCell ⟨g, k + 1, none⟩ a) ⟨g, k, none⟩ b j hj).trans (Below.heap_setCell w ⟨g, k + 1, none⟩ a j hj)
  · rw [hd.sz, Nat.div_one, Array.getElem?_setIfInBounds, Array.getElem?_setIfInBounds, Array.size_setIfInBounds]
    by_cases c1 : k = p
    · subst c1
      rw [if_pos rfl, if_pos (by omega), if_pos rfl, hb]
    · rw [if_neg c1, if_neg (Ne.symm c1)]
      by_cases c2 : k + 1 = p
      · subst c2
        rw [if_pos rfl, if_pos (by omega), if_pos rfl, Nat.add_sub_cancel, ha]
      · rw [if_neg c2, if_neg (Ne.symm c2)]
/-- Nothing elder is turned but the block g. -/
structure Fr (g : Nat) (w w' : World) : Prop where
  bel : ∀ B w0, B ≤ g → Below B w0 w → Below B w0 w'
  keep : ∀ k, k < w.heap.size → k ≠ g → w'.heap[k]? = w.heap[k]?
  size : w.heap.size ≤ w'.heap.size
theorem Fr.refl (g : Nat) (w : World) : Fr g w w := ⟨fun _ _ _ h => h, fun _ _ _ => rfl, Nat.le_refl _⟩
theorem Fr.trans {g : Nat} {w w1 w2 : World} (h : Fr g w w1) (k : Fr g w1 w2) : Fr g w w2 :=
  ⟨fun B w0 hB hb => k.bel B w0 hB (h.bel B w0 hB hb), fun i hi hne => (k.keep i (Nat.lt_of_lt_of_le hi h.size) hne).trans (h.keep i hi hne), Nat.le_trans h.size k.size⟩
theorem Fr.of_below {g : Nat} {w w1 : World} (h : Below w.heap.size w w1) (hg : g < w.heap.size) : Fr g w w1 :=
  ⟨fun _ _ hB hb => below_then hb (Nat.le_trans hB (Nat.le_of_lt hg)) h, fun k hk _ => h.block k hk, h.size⟩
theorem Fr.of_sets {g i j : Nat} {a b : Value} {w : World} : Fr g w (((w.setCell ⟨g, i, none⟩ a).setCell ⟨g, j, none⟩ b).drew) :=
  ⟨fun _ _ hB hb => below_drew ((hb.setCell hB _).setCell hB _), fun k _ hne => (Below.heap_setCell (w.setCell ⟨g, i, none⟩ a) ⟨g, j, none⟩ b k hne).trans (Below.heap_setCell w ⟨g, i, none⟩ a k hne), by simp [World.setCell]⟩
def IsSwap {α : Type} [Inhabited α] (d : Kd α) (e : Nat) (w : World) (base : Nat) (g n c : Nat) (ys : List α) (en : Ending) (w' : World) : Prop :=
  en = .returned (.tuple #[]) ∧ d.R e w' base (fun _ => True) (.slice (some ⟨g, 0, none⟩) n c) ys ∧ Fr g w w'
set_option maxRecDepth 100000 in
set_option maxHeartbeats 8000000 in
theorem swap57_calls (g n c : Nat) (ys : List In40) (m k : Nat) (w : World) (base : Nat) (hR : kPI.R 50 w base (fun _ => True) (.slice (some ⟨g, 0, none⟩) n c) ys) (hk : k + 1 < n) (hm : m = k + 1) :
    Calls Try.prog 57 #[.slice (some ⟨g, 0, none⟩) n c, .int .i64 m, .int .i64 k] w (IsSwap kPI 50 w base g n c (sw ys k)) := by
  obtain ⟨b1, k1, f1⟩ := ptr_at ptrI hR (i := k) (by omega)
  obtain ⟨b2, k2, f2⟩ := ptr_at ptrI hR (i := k + 1) hk
  have HS := Aside0.mk (ptr_swap ptrI hR hk k1 k2)
  rw [← hm] at k2 f2 HS
  have i0 : (0 : Int) ≤ (k : Int) := by omega
  have i1 : (k : Int) < (n : Int) := by omega
  have j0 : (0 : Int) ≤ (m : Int) := by omega
  have j1 : (m : Int) < (n : Int) := by omega
  have h1 : ¬ k = m := by omega
  have h2 : ¬ m = k := by omega
  clear hR hm hk
  go_enter Try.func57, Try.ntmps57
  go_region
  all_goals
    go_wp2_with fail
    go_end0
    exact ⟨rfl, HS.out, Fr.of_sets⟩
set_option maxRecDepth 100000 in
set_option maxHeartbeats 8000000 in
theorem swap61_calls (g n c : Nat) (ys : List S27) (m k : Nat) (w : World) (base : Nat) (hR : kPO.R 54 w base (fun _ => True) (.slice (some ⟨g, 0, none⟩) n c) ys) (hk : k + 1 < n) (hm : m = k + 1) :
    Calls Try.prog 61 #[.slice (some ⟨g, 0, none⟩) n c, .int .i64 m, .int .i64 k] w (IsSwap kPO 54 w base g n c (sw ys k)) := by
  obtain ⟨b1, k1, f1⟩ := ptr_at ptrO hR (i := k) (by omega)
  obtain ⟨b2, k2, f2⟩ := ptr_at ptrO hR (i := k + 1) hk
  have HS := Aside0.mk (ptr_swap ptrO hR hk k1 k2)
  rw [← hm] at k2 f2 HS
  have i0 : (0 : Int) ≤ (k : Int) := by omega
  have i1 : (k : Int) < (n : Int) := by omega
  have j0 : (0 : Int) ≤ (m : Int) := by omega
  have j1 : (m : Int) < (n : Int) := by omega
  have h1 : ¬ k = m := by omega
  have h2 : ¬ m = k := by omega
  clear hR hm hk
  go_enter Try.func61, Try.ntmps61
  go_region
  all_goals
    go_wp2_with fail
    go_end0
    exact ⟨rfl, HS.out, Fr.of_sets⟩
theorem len55_calls (A : Option Addr) (n c : Nat) (w : World) : Calls Try.prog 55 #[.slice A n c] w fun e w' => e = .returned (.int .i64 n) ∧ w = w' := by
  go_enter Try.func55, Try.ntmps55
  go_wp2
  go_ret
  exact ⟨rfl, rfl⟩
theorem len59_calls (A : Option Addr) (n c : Nat) (w : World) : Calls Try.prog 59 #[.slice A n c] w fun e w' => e = .returned (.int .i64 n) ∧ w = w' := by
  go_enter Try.func59, Try.ntmps59
  go_wp2
  go_ret
  exact ⟨rfl, rfl⟩
end Go.Proofs.Ytpggphjnghhmeaa.Srt
