/-
  A slice of ints that came in, opened into the printed words: what is read of it.
-/
import Derived.Test.YtkmcoaidlnaliaaOpenBytes
namespace Go.Proofs.Ytkmcoaidlnaliaa.OpenBytes
open Go.RowKit Go.ChangeShapes Go.Proofs.YtkmcoaidlnaliaaW.PrintWords Go.Proofs.YtkmcoaidlnaliaaW.PrintLast Go.Proofs.YtkmcoaidlnaliaaW.PrintMore

theorem range_i64 {n : Int} (h : (Lit.int .i64 n).wf = true) : -9223372036854775808 ≤ n ∧ n ≤ 9223372036854775807 := by
  simp [Lit.wf, IntKind.min, IntKind.max, IntKind.signed, IntKind.bits] at h
  omega

theorem open_i64s {P : Program} {H : Type} {enc : TypeId × Value → H} {W : World} {t e : TypeId} {A : Option Addr} {n c : Nat} {d : DataW H} {p : List MemPlace}
    (ht : P.underlying t = some (.slice e)) (he : P.underlying e = some (.int .i64)) (hce : P.cellsOf e = 1) (h : DataW.Trod enc P W 0 (fun _ => true) true t (.slice A n c) d p) :
    ∃ b : List Int, n = b.length ∧ Kd.C (Kd.int .i64) W A b.length b ∧ b.length ≤ c ∧ ∀ x ∈ b, -9223372036854775808 ≤ x ∧ x ≤ 9223372036854775807 := by
  obtain ⟨fuel, hf⟩ := h
  have key : ∃ l : List Int, n = l.length ∧ ReadsInt W .i64 A l.length l ∧ l.length ≤ maxLen ∧ (∀ x ∈ l, (Lit.int .i64 x).wf = true) ∧ l.length ≤ c := by
    rcases open_ints ht he hce hf with ⟨hcs, hx⟩ | ⟨a, len', cap', zs, hcs, _, hl, hm, hz, hx, hcell, hwz⟩
    · simp [Value.cells] at hcs
      obtain ⟨rfl, rfl, rfl⟩ := hcs
      exact ReadsInt.ofRowC (zs := []) (.inl ⟨rfl, rfl, rfl, rfl⟩)
    · simp [Value.cells] at hcs
      obtain ⟨rfl, rfl, rfl⟩ := hcs
      exact ReadsInt.ofRowC (.inr ⟨a, rfl, hl, hm, by simpa using hz, hcell, hwz⟩)
  obtain ⟨b, e1, h1, _, h2, h3⟩ := key
  exact ⟨b, e1, Kd.C_of_reads (d := (0 : Int)) (enc := Value.int .i64) h1, h3, fun x hx => range_i64 (h2 x hx)⟩
end Go.Proofs.Ytkmcoaidlnaliaa.OpenBytes
