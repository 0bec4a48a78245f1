/-
  Slices of inputs and of outputs that came in, opened.
-/
import Derived.Test.YtpggphjnghhmeaaOpenBytes
import Derived.Test.YtpggphjnghhmeaaLawPre
import Derived.Deep.Slices
import Derived.Lib.SmallJoins
namespace Go.Proofs.Ytpggphjnghhmeaa.OpenBytes
open Go.RowKit Go.ChangeShapes Go.Deep Go.Joins Go.Proofs.Ytpggphjnghhmeaa.PFnSorted Go.Proofs.Ytpggphjnghhmeaa.Srt Go.Proofs.YtpggphjnghhmeaaW.PrintWords Go.Proofs.YtpggphjnghhmeaaW.PrintLast Go.Proofs.YtpggphjnghhmeaaW.PrintMore

theorem cells40 : Try.prog.cellsOf 40 = 33 := by kernel_rfl
theorem cells37 : Try.prog.cellsOf 37 = 32 := by kernel_rfl
theorem cells38 : Try.prog.cellsOf 38 = 1 := by kernel_rfl
theorem cells27 : Try.prog.cellsOf 27 = 2 := by kernel_rfl
theorem cells2 : Try.prog.cellsOf 2 = 1 := by kernel_rfl
theorem cells25 : Try.prog.cellsOf 25 = 1 := by kernel_rfl
theorem cells5' : Try.prog.cellsOf 5 = 1 := by kernel_rfl
theorem in_cells {cs : List Value} (hlen : cs.length = 33) (h8 : ∀ i, i < 32 → ∃ z : Int, cs[i]? = some (.int .u8 z)) (h32 : ∃ z : Int, cs[32]? = some (.int .u32 z)) : ∃ x : In40, cs = cell40 x ∧ x.h.length = 32 := by
  obtain ⟨z, hz⟩ := h32
  refine ⟨⟨(List.range 32).map fun i => (match cs[i]? with | some (Value.int _ z) => z | _ => (0 : Int)), z⟩, ?_, by simp⟩
  apply List.ext_getElem?
  intro i
  unfold cell40
  by_cases h : i < 32
  · rw [List.getElem?_append_left (by simpa using h), List.getElem?_map, List.getElem?_map, List.getElem?_range h]
    obtain ⟨y, hy⟩ := h8 i h
    rw [hy]
    simp [hy]
  · rw [List.getElem?_append_right (by simp; omega)]
    by_cases e : i = 32
    · subst e; rw [hz]; simp
    · rw [List.getElem?_eq_none (by omega), List.getElem?_eq_none (by simp; omega)]
theorem open_ins {H : Type} {enc : TypeId × Value → H} {W : World} {A : Option Addr} {n c : Nat} {d : DataW H} {p : List MemPlace}
    (h : DataW.Trod enc Try.prog W 0 (fun _ => true) true 22 (.slice A n c) d p) : ∃ xs : List In40, n = xs.length ∧ Kd.C kIn W A xs.length xs := by
  obtain ⟨fuel, hf⟩ := h
  rcases open_slice Try.underlying22 hf with ⟨hcs0, _⟩ | ⟨a, len, cap, m, k, D, Pl, hcs0, _, hl, hm, hmm, _, hx⟩
  · simp [Value.cells] at hcs0
    obtain ⟨rfl, rfl, rfl⟩ := hcs0
    exact ⟨[], rfl, ⟨rfl, by simp, fun h => absurd h (by simp)⟩⟩
  · simp [Value.cells] at hcs0
    obtain ⟨rfl, rfl, rfl⟩ := hcs0
    have hle : n ≤ m := by rw [hmm]; split <;> omega
    have key : ∀ i, i < n → ∃ x : In40, x.h.length = 32 ∧ ∀ j v, (cell40 x)[j]? = some v → W.cell? (a.add (i * 33 + j)) = some v := fun i hi => by
      obtain ⟨cs', h1, h2⟩ := hx i (by omega)
      rw [cells40] at h1
      obtain ⟨_, hlen, hc⟩ := World.cells?_some h1
      obtain ⟨y0, y1, q, _, _, t0, t1⟩ := trod_struct2 Try.underlying40 h2
      obtain ⟨z1, e1, -, w1⟩ := DataW.trod_int Try.underlying38 t1
      obtain ⟨xs, m0, rfl, _, _, hl0, hx0⟩ := DataW.trod_array Try.underlying37 t0
      have g8 : ∀ i, i < 32 → ∃ z : Int, cs'[i]? = some (.int .u8 z) := fun i hi => by
        have h3 := hx0 i hi
        have h4 : i < xs.length := by omega
        rw [cells5', Nat.mul_one, List.getElem?_eq_getElem h4] at h3
        obtain ⟨z, e2, _, _⟩ := DataW.trod_int Try.underlying5 h3
        refine ⟨z, ?_⟩
        have h5 : (List.take 1 (List.drop i (List.take (Try.prog.cellsOf 37) (List.drop 0 cs'))))[0]? = some (Value.int .u8 z) := by rw [e2]; rfl
        rw [cells37, List.drop_zero, List.getElem?_take, if_pos (by omega), List.getElem?_drop, List.getElem?_take, if_pos (by omega)] at h5
        exact h5
      have g32 : ∃ z : Int, cs'[32]? = some (.int .u32 z) := ⟨z1, by
        have h5 : (List.take (Try.prog.cellsOf 38) (List.drop 32 cs'))[0]? = some (Value.int .u32 z1) := by rw [e1]; rfl
        rw [cells38, List.getElem?_take, if_pos (by omega), List.getElem?_drop] at h5
        exact h5⟩
      obtain ⟨x, ex, hxl⟩ := in_cells hlen g8 g32
      refine ⟨x, hxl, fun j v hj => ?_⟩
      rw [← ex] at hj
      have hjl : j < 33 := by have := (List.getElem?_eq_some_iff.1 hj).1; omega
      have h6 := hc j hjl
      rw [Addr.add_add] at h6
      rw [h6, hj]
    have hF : ∃ F : Nat → In40, ∀ i, i < n → (F i).h.length = 32 ∧ ∀ j v, (cell40 (F i))[j]? = some v → W.cell? (a.add (i * 33 + j)) = some v := by
      refine ⟨fun i => if hi : i < n then (key i hi).choose else default, fun i hi => ?_⟩
      dsimp only
      rw [dif_pos hi]
      exact (key i hi).choose_spec
    obtain ⟨F, hF⟩ := hF
    have hmx : maxLen = 9223372036854775807 := rfl
    refine ⟨(List.range n).map F, by simp, ⟨rfl, by simp; omega, fun _ => ⟨a, rfl, fun j p hj => ?_⟩⟩⟩
    have hj' : j < n := by
      have := (List.getElem?_eq_some_iff.1 hj).1
      simpa using this
    rw [List.getElem?_map, List.getElem?_range hj'] at hj
    injection hj with hj
    subst hj
    obtain ⟨h1, h2⟩ := hF j hj'
    exact ⟨_, cell40_length h1, ⟨rfl, h1⟩, fun i u hu => h2 i u hu⟩
theorem open_outs {H : Type} {enc : TypeId × Value → H} {W : World} {A : Option Addr} {n c : Nat} {d : DataW H} {p : List MemPlace}
    (h : DataW.Trod enc Try.prog W 0 (fun _ => true) true 23 (.slice A n c) d p) : ∃ xs : List S27, n = xs.length ∧ Kd.C k27 W A xs.length xs ∧ xs.length ≤ c ∧ bytesO xs := by
  obtain ⟨fuel, hf⟩ := h
  rcases open_slice Try.underlying23 hf with ⟨hcs0, _⟩ | ⟨a, len, cap, m, k, D, Pl, hcs0, _, hl, hm, hmm, _, hx⟩
  · simp [Value.cells] at hcs0
    obtain ⟨rfl, rfl, rfl⟩ := hcs0
    exact ⟨[], rfl, ⟨rfl, by simp, fun h => absurd h (by simp)⟩, Nat.le_refl _, fun _ h => by cases h⟩
  · simp [Value.cells] at hcs0
    obtain ⟨rfl, rfl, rfl⟩ := hcs0
    have hle : n ≤ m := by rw [hmm]; split <;> omega
    have key : ∀ i, i < n → ∃ x : S27, (∃ A1 c1, W.cell? (a.add (i * 2)) = some (.int .i64 x.f0) ∧ W.cell? ((a.add (i * 2)).add 1) = some (.slice A1 x.f1.length c1) ∧ x.f1.length ≤ c1 ∧ Kd.C (Kd.int .u8) W A1 x.f1.length x.f1) ∧ rng x.f1 := fun i hi => by
      obtain ⟨cs', h1, h2⟩ := hx i (by omega)
      rw [cells27] at h1
      obtain ⟨_, hlen, hc⟩ := World.cells?_some h1
      obtain ⟨y0, y1, q, _, _, t0, t1⟩ := trod_struct2 Try.underlying27 h2
      obtain ⟨z0, e0, -, w0⟩ := DataW.trod_int Try.underlying2 t0
      have hu : ∃ u0 u1, cs' = [u0, u1] := by
        match cs', hlen with
        | [u0, u1], _ => exact ⟨u0, u1, rfl⟩
      obtain ⟨u0, u1, rfl⟩ := hu
      have e0' : [u0] = [.int .i64 z0] := by rw [← e0, cells2]; rfl
      injection e0' with e0'
      subst e0'
      have t1' : DataW.trod enc Try.prog W 0 (fun _ => true) true q 25 [u1] = some y1 := by rw [← t1, cells25]; rfl
      have hs : ∃ A1 l1 c1, u1 = .slice A1 l1 c1 := by
        rcases DataW.trod_slice Try.underlying25 t1' with ⟨e, _⟩ | ⟨a1, l1, c1, _, _, _, _, e, _⟩
        · injection e with e _; exact ⟨_, _, _, e⟩
        · injection e with e _; exact ⟨_, _, _, e⟩
      obtain ⟨A1, l1, c1, rfl⟩ := hs
      obtain ⟨b, e1, e2, e3, e4⟩ := open_bytes (P := Try.prog) Try.underlying25 Try.underlying5 cells5' (⟨q, by simpa [Value.cells] using t1'⟩ : DataW.Trod enc Try.prog W 0 (fun _ => true) true 25 (.slice A1 l1 c1) y1.1 y1.2)
      subst e1
      refine ⟨⟨z0, b⟩, ⟨A1, c1, ?_, hc 1 (by omega), e3, e2⟩, e4⟩
      have h0 := hc 0 (by omega)
      rw [Addr.add_zero'] at h0
      exact h0
    have hF : ∃ F : Nat → S27, ∀ i, i < n → (∃ A1 c1, W.cell? (a.add (i * 2)) = some (.int .i64 (F i).f0) ∧ W.cell? ((a.add (i * 2)).add 1) = some (.slice A1 (F i).f1.length c1) ∧ (F i).f1.length ≤ c1 ∧ Kd.C (Kd.int .u8) W A1 (F i).f1.length (F i).f1) ∧ rng (F i).f1 := by
      refine ⟨fun i => if hi : i < n then (key i hi).choose else default, fun i hi => ?_⟩
      dsimp only
      rw [dif_pos hi]
      exact (key i hi).choose_spec
    obtain ⟨F, hF⟩ := hF
    have hmx : maxLen = 9223372036854775807 := rfl
    refine ⟨(List.range n).map F, by simp, ⟨rfl, by simp; omega, fun _ => ⟨a, rfl, fun j p hj => ?_⟩⟩, by simp; omega, fun y hy => ?_⟩
    · have hj' : j < n := by
        have := (List.getElem?_eq_some_iff.1 hj).1
        simpa using this
      rw [List.getElem?_map, List.getElem?_range hj'] at hj
      injection hj with hj
      subst hj
      obtain ⟨⟨A1, c1, h1, h2, h3, h4⟩, _⟩ := hF j hj'
      refine ⟨_, rfl, k27_mk W (F j) h3 h4, fun i u hu => ?_⟩
      have e1 : k27.sz = 2 := rfl
      rw [e1]
      match i, hu with
      | 0, hu =>
        simp only [List.getElem?_cons_zero, Option.some.injEq] at hu
        subst hu
        rw [Nat.add_zero]
        exact h1
      | 1, hu =>
        simp at hu
        subst hu
        rw [← Addr.add_add]
        exact h2
    · obtain ⟨i, hi, rfl⟩ := List.mem_map.1 hy
      exact (hF i (List.mem_range.1 hi)).2
end Go.Proofs.Ytpggphjnghhmeaa.OpenBytes
