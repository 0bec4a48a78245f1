/-
  PushBack, Remove and the set's own functions, walked.
-/
import Derived.Test.YtkmcoaidlnaliaaRingOps
namespace Go.Proofs.Ytkmcoaidlnaliaa.Purse
open Go.RowKit Go.Proofs.Ytkmcoaidlnaliaa.Hand Go.Proofs.YtkmcoaidlnaliaaW.PrintWords Go.Proofs.YtkmcoaidlnaliaaW.PrintLast Go.Proofs.YtkmcoaidlnaliaaW.PrintMore

/-- A coin with its place, as an interface value. -/
abbrev coinV (v c at2 : Int) : Value := .iface 44 (.agg #[.int .i64 v, .int .i64 c, .int .i64 at2])
set_option maxHeartbeats 4000000 in
theorem value_calls (v c a : Int) (w : World) : Calls Try.prog 49 #[.agg #[.int .i64 v, .int .i64 c, .int .i64 a]] w fun e w' => e = .returned (.int .i64 v) ∧ Below w.heap.size w w' := by
  go_enter Try.func49, Try.ntmps49
  go_wp2
  go_ret
  exact ⟨rfl, below_alloc (Below.refl _ _) _⟩
set_option maxHeartbeats 4000000 in
theorem age_calls (v c a : Int) (h0 : 0 ≤ v) (h1 : v ≤ 1000000) (h2 : 0 ≤ c) (h3 : c ≤ 10000) (w : World) : Calls Try.prog 50 #[.agg #[.int .i64 v, .int .i64 c, .int .i64 a]] w fun e w' => e = .returned (.int .i64 (c * v)) ∧ Below w.heap.size w w' := by
  have hm : IntKind.i64.wrap (c * v) = c * v := by
    have hc : c * v ≤ 10000 * 1000000 := Int.mul_le_mul h3 h1 h0 (by omega)
    have hc0 : 0 ≤ c * v := Int.mul_nonneg h2 h0
    rw [IntKind.wrap_i64]; omega
  go_enter Try.func50, Try.ntmps50
  go_wp2
  go_ret
  exact ⟨rfl, below_alloc (Below.refl _ _) _⟩
theorem fz_below {w w1 : World} {b o j : Nat} {v : Value} (hb : Below w.heap.size w w1) (hc : w.cell? ⟨b, o, none⟩ = some v) (hf : w.frozen? ⟨b, j, none⟩ = false) : w1.frozen? ⟨b, j, none⟩ = false :=
  (hb.frozen (p := ⟨b, j, none⟩) (World.block_lt_of_cell? w ⟨b, o, none⟩ hc)).trans hf
theorem mValue (v c a : Int) : ∀ w, Sem.run Try.prog (method 239 44 (.agg #[.int .i64 v, .int .i64 c, .int .i64 a]) "Value") w = .ok (49, .agg #[.int .i64 v, .int .i64 c, .int .i64 a]) w := fun w => by kernel_rfl
theorem mAge (v c a : Int) : ∀ w, Sem.run Try.prog (method 239 44 (.agg #[.int .i64 v, .int .i64 c, .int .i64 a]) "ValueAge") w = .ok (50, .agg #[.int .i64 v, .int .i64 c, .int .i64 a]) w := fun w => by kernel_rfl

/-- insert, whatever stands at the end. -/
theorem ins_any (L e a n : Nat) (w : World) (h1 : L ≠ e) (h2 : a ≠ e)
  (c1 : w.cell? ⟨a, 0, none⟩ = some (P L)) (c2 : w.cell? ⟨L, 4, none⟩ = some (.int .i64 n)) (hn : (n : Int) < 100)
  (c3 : w.cell? ⟨L, 1, none⟩ = some (P a)) (d1 : w.frozen? ⟨a, 0, none⟩ = false) (d0 : w.frozen? ⟨L, 0, none⟩ = false) (d2 : w.frozen? ⟨L, 4, none⟩ = false) (d3 : w.frozen? ⟨L, 1, none⟩ = false)
  (e0 : w.cell? ⟨e, 0, none⟩ = some (.pointer none)) (e1 : w.cell? ⟨e, 1, none⟩ = some (.pointer none)) (e2 : w.cell? ⟨e, 2, none⟩ = some (.pointer none))
  (f0 : w.frozen? ⟨e, 0, none⟩ = false) (f1 : w.frozen? ⟨e, 1, none⟩ = false) (f2 : w.frozen? ⟨e, 2, none⟩ = false) :
   Calls Try.prog 30 #[P L, P e, P a] w fun en w' => en = .returned (P e) ∧ w' = insW w L e a n := by
  by_cases h : a = L
  · subst h
    exact ins_first a e n w h1 c1 c2 hn c3 d1 d2 d3 e0 e1 e2 f0 f1 f2
  · exact ins_last L e a n w h1 h2 h c1 c2 hn c3 d1 d2 d3 e0 e1 e2 f0 f1 f2

abbrev elemO (v : Value) : Obj := .cells #[.pointer none, .pointer none, .pointer none, v] 76 (0, 0)
theorem new_blk (w : World) (o : Obj) : (w.alloc o).heap[w.heap.size]? = some o := by
  show (w.heap.push _)[w.heap.size]? = _
  simp
theorem new_elem (w : World) (v : Value) : (w.alloc (elemO v)).cell? ⟨w.heap.size, 0, none⟩ = some (.pointer none) ∧ (w.alloc (elemO v)).cell? ⟨w.heap.size, 1, none⟩ = some (.pointer none) ∧ (w.alloc (elemO v)).cell? ⟨w.heap.size, 2, none⟩ = some (.pointer none) ∧ (w.alloc (elemO v)).cell? ⟨w.heap.size, 3, none⟩ = some v ∧ ∀ j, (w.alloc (elemO v)).frozen? ⟨w.heap.size, j, none⟩ = false := by
  have h := new_blk w (elemO v)
  refine ⟨?_, ?_, ?_, ?_, fun j => ?_⟩
  · unfold World.cell?; simp only [h]; rfl
  · unfold World.cell?; simp only [h]; rfl
  · unfold World.cell?; simp only [h]; rfl
  · unfold World.cell?; simp only [h]; rfl
  · unfold World.frozen?; rw [h]; simp

theorem lazy_calls (L h : Nat) (w : World) (k0 : w.cell? ⟨L, 0, none⟩ = some (P h)) : Calls Try.prog 27 #[P L] w fun e w' => e = .returned (.tuple #[]) ∧ w = w' := by
  go_enter Try.func27, Try.ntmps27
  go_wp2
  go_end0
  exact ⟨rfl, rfl⟩
set_option maxHeartbeats 4000000 in
theorem insVal_calls (L z n : Nat) (v c a : Int) (w : World) (H : Aside0 (Calls Try.prog 30 #[P L, P w.heap.size, P z] (w.alloc (elemO (coinV v c a))) fun en w' => en = .returned (P w.heap.size) ∧ w' = insW (w.alloc (elemO (coinV v c a))) L w.heap.size z n)) :
    Calls Try.prog 28 #[P L, coinV v c a, P z] w fun en w' => en = .returned (P w.heap.size) ∧ w' = insW (w.alloc (elemO (coinV v c a))) L w.heap.size z n := by
  go_enter Try.func28, Try.ntmps28
  go_wp2_with (first | (go_at_call 30; refine H.out.mono ?_; rintro e1 w1 ⟨rfl, rfl⟩) | fail)
  go_ret
  exact ⟨rfl, rfl⟩

def IsPush (w : World) (base L : Nat) (bs : List Nat) (vs : List Value) (v : Value) (en : Ending) (w' : World) : Prop :=
  en = .returned (P w.heap.size) ∧ Ring w' base L (bs ++ [w.heap.size]) (vs ++ [v]) ∧ Fr (L :: bs) w w'
set_option maxHeartbeats 8000000 in
theorem pushBack_calls (L base : Nat) (bs : List Nat) (vs : List Value) (v c a : Int) (w : World) (hR : Ring w base L bs vs) (hl : bs.length < 60) (hb : base ≤ w.heap.size) :
    Calls Try.prog 20 #[P L, coinV v c a] w (IsPush w base L bs vs (coinV v c a)) := by
  have HR := Aside0.mk hR
  have HBW := Aside0.mk hb
  obtain ⟨h0, hh0⟩ : ∃ h, h = bs.headD L := ⟨_, rfl⟩
  obtain ⟨z, hz⟩ : ∃ z, z = lastB L bs := ⟨_, rfl⟩
  have k0 := hR.fwd.head
  have k1 := hR.bwd.last
  have k4 := hR.len
  have kz := hR.fwd.last
  have hlow := hR.low
  have hzm := lastB_mem L bs
  rw [← hh0] at k0
  rw [← hz] at k1 kz hzm
  have hLlt := (hlow L (by simp)).2
  have hzlt := (hlow z hzm).2
  have hz1 : L ≠ w.heap.size := by omega
  have hz2 : z ≠ w.heap.size := by omega
  obtain ⟨E0, E1, E2, E3, E4⟩ := new_elem w (coinV v c a)
  have hbl : Below w.heap.size w (w.alloc (elemO (coinV v c a))) := below_alloc (Below.refl _ _) _
  have hk : ∀ b, b < w.heap.size → (w.alloc (elemO (coinV v c a))).heap[b]? = w.heap[b]? := fun b hb => hbl.block b hb
  have hI := Aside0.mk (ins_any L w.heap.size z bs.length (w.alloc (elemO (coinV v c a))) hz1 hz2 ((cell_eq (hk z hzlt) 0).trans kz) ((cell_eq (hk L hLlt) 4).trans k4) (by omega)
    ((cell_eq (hk L hLlt) 1).trans k1) ((fz_eq (hk z hzlt) 0).trans (hR.fz z hzm 0)) ((fz_eq (hk L hLlt) 0).trans (hR.fz L (by simp) 0)) ((fz_eq (hk L hLlt) 4).trans (hR.fz L (by simp) 4)) ((fz_eq (hk L hLlt) 1).trans (hR.fz L (by simp) 1))
    E0 E1 E2 (E4 0) (E4 1) (E4 2))
  have HW : Aside0 (Ring (insW (w.alloc (elemO (coinV v c a))) L w.heap.size z bs.length) base L (bs ++ [w.heap.size]) (vs ++ [coinV v c a]) ∧ Fr (L :: bs) w (insW (w.alloc (elemO (coinV v c a))) L w.heap.size z bs.length)) := ⟨by
    rw [hz]
    refine ⟨Ring.push (hR.frame (fun k hk' => hk k (hlow k hk').2) hbl.size) (fun hm => by have := (hlow _ hm).2; omega) hb (by simp) ⟨_, _, new_blk w (elemO (coinV v c a))⟩ E0 E1 E2 E3, ?_⟩
    refine Fr.new (e := w.heap.size) ?_ (Nat.le_refl _)
    refine (Fr.of_below hbl).trans (Fr.ins (by simp) (by simp) ?_)
    rw [← hz]
    exact .tail _ hzm⟩
  clear hR hb hh0 hz hlow hzm E0 E1 E2 E3 E4 hbl hk kz k4
  go_enter Try.func20, Try.ntmps20
  go_wp2_with (first
    | (go_at_call 27; refine (lazy_calls L h0 w k0).mono ?_; rintro e1 w1 ⟨rfl, rfl⟩)
    | (go_at_call 28; refine (insVal_calls L z bs.length v c a w hI).mono ?_; rintro e1 w1 ⟨rfl, rfl⟩)
    | fail)
  go_ret
  exact ⟨rfl, HW.out⟩
end Go.Proofs.Ytkmcoaidlnaliaa.Purse
