/-
  A slice of coins that came in, opened into the printed words.
-/
import Derived.Test.YtkmcoaidlnaliaaOpenInts
import Derived.Test.YtkmcoaidlnaliaaPFnPursex0
import Derived.Deep.Slices
import Derived.Lib.SmallJoins
namespace Go.Proofs.Ytkmcoaidlnaliaa.OpenBytes
open Go.RowKit Go.ChangeShapes Go.Deep Go.Joins Go.Proofs.Ytkmcoaidlnaliaa.PFnPurse Go.Proofs.YtkmcoaidlnaliaaW.PrintWords Go.Proofs.YtkmcoaidlnaliaaW.PrintLast Go.Proofs.YtkmcoaidlnaliaaW.PrintMore

theorem cells28 : Try.prog.cellsOf 28 = 2 := by kernel_rfl
theorem cells2 : Try.prog.cellsOf 2 = 1 := by kernel_rfl
theorem cells3 : Try.prog.cellsOf 3 = 1 := by kernel_rfl

theorem two {α : Type} : ∀ {l : List α}, l.length = 2 → ∃ a b, l = [a, b]
  | [a, b], _ => ⟨a, b, rfl⟩
theorem open_coins {H : Type} {enc : TypeId × Value → H} {W : World} {A : Option Addr} {n c : Nat} {d : DataW H} {p : List MemPlace}
    (h : DataW.Trod enc Try.prog W 0 (fun _ => true) true 23 (.slice A n c) d p) :
    ∃ xs : List S28, n = xs.length ∧ Kd.C k28 W A xs.length xs ∧ xs.length ≤ c := by
  obtain ⟨fuel, hf⟩ := h
  rcases open_slice Try.underlying23 hf with ⟨hcs0, _⟩ | ⟨a, len, cap, m, k, D, Pl, hcs0, _, hl, hm, hmm, _, hx⟩
  · simp [Value.cells] at hcs0
    obtain ⟨rfl, rfl, rfl⟩ := hcs0
    exact ⟨[], rfl, ⟨rfl, by simp, fun h => absurd h (by simp)⟩, Nat.le_refl _⟩
  · simp [Value.cells] at hcs0
    obtain ⟨rfl, rfl, rfl⟩ := hcs0
    have hle : n ≤ m := by rw [hmm]; split <;> omega
    have key : ∀ i, i < n → ∃ x : S28, W.cell? (a.add (i * 2)) = some (.int .i64 x.f0) ∧ W.cell? ((a.add (i * 2)).add 1) = some (.int .i64 x.f1) := fun i hi => by
      obtain ⟨cs', h1, h2⟩ := hx i (by omega)
      rw [cells28] at h1
      obtain ⟨_, hlen, hc⟩ := World.cells?_some h1
      obtain ⟨y0, y1, q, _, _, t0, t1⟩ := trod_struct2 Try.underlying28 h2
      obtain ⟨z0, e0, -, w0⟩ := DataW.trod_int Try.underlying2 t0
      obtain ⟨z1, e1, -, w1⟩ := DataW.trod_int Try.underlying2 t1
      obtain ⟨u0, u1, rfl⟩ := two hlen
      have e0' : [u0] = [.int .i64 z0] := by rw [← e0, cells2]; rfl
      have e1' : [u1] = [.int .i64 z1] := by rw [← e1, cells2]; rfl
      injection e0' with e0'
      injection e1' with e1'
      subst e0' e1'
      refine ⟨⟨z0, z1⟩, ?_, hc 1 (by omega)⟩
      have h0 := hc 0 (by omega)
      rw [Addr.add_zero'] at h0
      exact h0
    have hF : ∃ F : Nat → S28, ∀ i, i < n → W.cell? (a.add (i * 2)) = some (.int .i64 (F i).f0) ∧ W.cell? ((a.add (i * 2)).add 1) = some (.int .i64 (F i).f1) := by
      refine ⟨fun i => if hi : i < n then (key i hi).choose else z28, fun i hi => ?_⟩
      dsimp only
      rw [dif_pos hi]
      exact (key i hi).choose_spec
    obtain ⟨F, hF⟩ := hF
    have hmx : maxLen = 9223372036854775807 := rfl
    refine ⟨(List.range n).map F, by simp, ⟨rfl, by simp; omega, fun _ => ⟨a, rfl, fun j p hj => ?_⟩⟩, by simp; omega⟩
    have hj' : j < n := by
      have := (List.getElem?_eq_some_iff.1 hj).1
      simpa using this
    rw [List.getElem?_map, List.getElem?_range hj'] at hj
    injection hj with hj
    subst hj
    obtain ⟨h1, h2⟩ := hF j hj'
    refine ⟨_, rfl, k28_mk W (F j), fun i u hu => ?_⟩
    have e1 : k28.sz = 2 := rfl
    rw [e1]
    match i, hu with
    | 0, hu =>
      simp only [List.getElem?_cons_zero, Option.some.injEq] at hu
      subst hu
      rw [Nat.add_zero]
      exact h1
    | 1, hu =>
      simp at hu
      subst hu
      rw [← Addr.add_add]
      exact h2
end Go.Proofs.Ytkmcoaidlnaliaa.OpenBytes
