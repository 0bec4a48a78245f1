/-
  A slice of bytes that came in, opened into the printed words: what is read of it.
-/
import Derived.Test.YtfhkkojdaejnjaaDoorWMore
import Derived.ChangeSlices
import Derived.ProofKit
namespace Go.Proofs.YtfhkkojdaejnjaaDoor.OpenBytes
open Go.RowKit Go.ChangeShapes Go.Proofs.YtfhkkojdaejnjaaDoorW.PrintWords Go.Proofs.YtfhkkojdaejnjaaDoorW.PrintLast Go.Proofs.YtfhkkojdaejnjaaDoorW.PrintMore

theorem range_u8 {n : Int} (h : (Lit.int .u8 n).wf = true) : 0 ≤ n ∧ n < 256 := by
  simp [Lit.wf, IntKind.min, IntKind.max, IntKind.signed, IntKind.bits] at h
  omega

theorem open_bytes {P : Program} {H : Type} {enc : TypeId × Value → H} {W : World} {t e : TypeId} {A : Option Addr} {n c : Nat} {d : DataW H} {p : List MemPlace}
    (ht : P.underlying t = some (.slice e)) (he : P.underlying e = some (.int .u8)) (hce : P.cellsOf e = 1) (h : DataW.Trod enc P W 0 (fun _ => true) true t (.slice A n c) d p) :
    ∃ b : List Int, n = b.length ∧ Kd.C (Kd.int .u8) W A b.length b ∧ b.length ≤ c ∧ ∀ x ∈ b, 0 ≤ x ∧ x < 256 := by
  obtain ⟨fuel, hf⟩ := h
  have key : ∃ l : List Int, n = l.length ∧ ReadsInt W .u8 A l.length l ∧ l.length ≤ maxLen ∧ (∀ x ∈ l, (Lit.int .u8 x).wf = true) ∧ l.length ≤ c := by
    rcases open_ints ht he hce hf with ⟨hcs, hx⟩ | ⟨a, len', cap', zs, hcs, _, hl, hm, hz, hx, hcell, hwz⟩
    · simp [Value.cells] at hcs
      obtain ⟨rfl, rfl, rfl⟩ := hcs
      exact ReadsInt.ofRowC (zs := []) (.inl ⟨rfl, rfl, rfl, rfl⟩)
    · simp [Value.cells] at hcs
      obtain ⟨rfl, rfl, rfl⟩ := hcs
      exact ReadsInt.ofRowC (.inr ⟨a, rfl, hl, hm, by simpa using hz, hcell, hwz⟩)
  obtain ⟨b, e1, h1, _, h2, h3⟩ := key
  exact ⟨b, e1, Kd.C_of_reads (d := (0 : Int)) (enc := Value.int .u8) h1, h3, fun x hx => range_u8 (h2 x hx)⟩
end Go.Proofs.YtfhkkojdaejnjaaDoor.OpenBytes
