/-
  A slice of slices of bytes that came in, opened into the printed words.
-/
import Derived.Test.YtfhkkojdaejnjaaDoorOpenBytes
import Derived.Deep.Slices
import Derived.Lib.SmallJoins
namespace Go.Proofs.YtfhkkojdaejnjaaDoor.OpenBytes
open Go.RowKit Go.ChangeShapes Go.Deep Go.Joins Go.Proofs.YtfhkkojdaejnjaaDoorW.PrintWords Go.Proofs.YtfhkkojdaejnjaaDoorW.PrintLast Go.Proofs.YtfhkkojdaejnjaaDoorW.PrintMore

theorem open_rows {P : Program} {H : Type} {enc : TypeId × Value → H} {W : World} {t s e : TypeId} {A : Option Addr} {n c : Nat} {d : DataW H} {p : List MemPlace}
    (ht : P.underlying t = some (.slice s)) (hs : P.underlying s = some (.slice e)) (hcs : P.cellsOf s = 1) (he : P.underlying e = some (.int .u8)) (hce : P.cellsOf e = 1) (h : DataW.Trod enc P W 0 (fun _ => true) true t (.slice A n c) d p) :
    ∃ xs : List (List Int), n = xs.length ∧ Kd.C (Kd.slice 5 (Kd.int .u8)) W A xs.length xs ∧ xs.length ≤ c ∧ ∀ x ∈ xs, ∀ y ∈ x, 0 ≤ y ∧ y < 256 := by
  obtain ⟨fuel, hf⟩ := h
  rcases open_slice1 ht hcs hf with ⟨hcs0, _⟩ | ⟨a, len, cap, m, k, V, D, Pl, hcs0, _, hl, hm, hmm, _, hx⟩
  · simp [Value.cells] at hcs0
    obtain ⟨rfl, rfl, rfl⟩ := hcs0
    exact ⟨[], rfl, ⟨rfl, by simp, fun h => absurd h (by simp)⟩, Nat.le_refl _, fun _ h => by cases h⟩
  · simp [Value.cells] at hcs0
    obtain ⟨rfl, rfl, rfl⟩ := hcs0
    have hle : n ≤ m := by rw [hmm]; split <;> omega
    have key : ∀ i, i < n → ∃ (Ai : Option Addr) (ci : Nat) (b : List Int), W.cell? (a.add i) = some (.slice Ai b.length ci) ∧ b.length ≤ ci ∧ Kd.C (Kd.int .u8) W Ai b.length b ∧ ∀ y ∈ b, 0 ≤ y ∧ y < 256 := fun i hi => by
      obtain ⟨h1, h2⟩ := hx i (by omega)
      obtain ⟨Ai, li, ci, hv⟩ := slice_form hs h2
      have hv' : V i = .slice Ai li ci := by simpa using hv
      rw [hv'] at h1 h2
      obtain ⟨b, e1, e2, e3, e4⟩ := open_bytes hs he hce (⟨k, by simpa [Value.cells] using h2⟩ : DataW.Trod enc P W 0 (fun _ => true) true s (.slice Ai li ci) (D i) (Pl i))
      subst e1
      exact ⟨Ai, ci, b, h1, e3, e2, e4⟩
    have hF : ∃ F : Nat → List Int, ∀ i, i < n → ∃ (Ai : Option Addr) (ci : Nat), W.cell? (a.add i) = some (.slice Ai (F i).length ci) ∧ (F i).length ≤ ci ∧ Kd.C (Kd.int .u8) W Ai (F i).length (F i) ∧ ∀ y ∈ F i, 0 ≤ y ∧ y < 256 := by
      refine ⟨fun i => if hi : i < n then (key i hi).choose_spec.choose_spec.choose else [], fun i hi => ?_⟩
      dsimp only
      rw [dif_pos hi]
      exact ⟨_, _, (key i hi).choose_spec.choose_spec.choose_spec⟩
    obtain ⟨F, hF⟩ := hF
    have hmx : maxLen = 9223372036854775807 := rfl
    refine ⟨(List.range n).map F, by simp, ⟨rfl, by simp; omega, fun _ => ⟨a, rfl, fun j p hj => ?_⟩⟩, by simp; omega, fun x hx => ?_⟩
    · have hj' : j < n := by
        have := (List.getElem?_eq_some_iff.1 hj).1
        simpa using this
      rw [List.getElem?_map, List.getElem?_range hj'] at hj
      injection hj with hj
      subst hj
      obtain ⟨Ai, ci, h1, h2, h3, _⟩ := hF j hj'
      refine ⟨[.slice Ai (F j).length ci], rfl, ⟨Ai, ci, rfl, h2, h3⟩, fun i u hu => ?_⟩
      match i, hu with
      | 0, hu =>
        simp only [List.getElem?_cons_zero, Option.some.injEq] at hu
        subst hu
        have e1 : (Kd.slice 5 (Kd.int .u8)).sz = 1 := rfl
        rw [e1, Nat.mul_one, Nat.add_zero]
        exact h1
    · obtain ⟨i, hi, rfl⟩ := List.mem_map.1 hx
      obtain ⟨_, _, _, _, _, h4⟩ := hF i (List.mem_range.1 hi)
      exact h4
end Go.Proofs.YtfhkkojdaejnjaaDoor.OpenBytes
