/-
  An array of bytes that came in by value, opened.
-/
import Derived.Test.YtfhkkojdaejnjaaDoorOpenBytes
import Derived.OpenShut
namespace Go.Proofs.YtfhkkojdaejnjaaDoor.OpenBytes
open Go.RowKit Go.ChangeShapes Go.WideShapes

theorem open_arr {P : Program} {H : Type} {enc : TypeId × Value → H} {W : World} {r : Reach} {b0 n : Nat} {t e : TypeId} {v : Value} {d : DataW H} {p : List MemPlace}
    (ht : P.underlying t = some (.array n e)) (he : P.underlying e = some (.int .u8)) (hce : P.cellsOf e = 1) (hct : P.cellsOf t = n)
    (hv : Value.okWide P W r b0 t v) (h : DataW.Trod enc P W 0 (fun _ => true) true t v d p) :
    ∃ hs : List Int, v = .agg (hs.map (Value.int .u8)).toArray ∧ hs.length = n ∧ ∀ x ∈ hs, 0 ≤ x ∧ x < 256 := by
  simp only [Value.okWide, ht] at hv
  obtain ⟨cs, rfl, hsz, _⟩ := hv
  rw [hct] at hsz
  obtain ⟨fuel, hf⟩ := h
  obtain ⟨xs, m, rfl, _, _, hl, hx⟩ := DataW.trod_array ht hf
  have key : ∀ i, i < n → ∃ z : Int, cs[i]? = some (.int .u8 z) ∧ 0 ≤ z ∧ z < 256 := fun i hi => by
    have h1 := hx i hi
    have h2 : i < xs.length := by omega
    rw [hce, Nat.mul_one, List.getElem?_eq_getElem h2] at h1
    obtain ⟨z, e1, _, w1⟩ := DataW.trod_int he h1
    refine ⟨z, ?_, range_u8 w1⟩
    have h3 : (List.take 1 (List.drop i (Value.agg cs).cells.toList))[0]? = some (Value.int .u8 z) := by rw [e1]; rfl
    rw [List.getElem?_take, if_pos (by omega), List.getElem?_drop] at h3
    simpa [Value.cells] using h3
  refine ⟨(List.range n).map fun i => (match cs[i]? with | some (Value.int _ z) => z | _ => (0 : Int)), ?_, by simp, fun x hx => ?_⟩
  · congr 1
    apply Array.ext
    · simp [hsz]
    · intro i h1 h2
      obtain ⟨z, hz, _⟩ := key i (by omega)
      have : cs[i] = .int .u8 z := by
        rw [Array.getElem?_eq_getElem h1] at hz
        exact Option.some.inj hz
      simp [this, hz]
  · obtain ⟨i, hi, rfl⟩ := List.mem_map.1 hx
    obtain ⟨z, hz, hr⟩ := key i (List.mem_range.1 hi)
    rw [hz]
    exact hr
end Go.Proofs.YtfhkkojdaejnjaaDoor.OpenBytes
