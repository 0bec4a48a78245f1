/-
  A filter that came in by value, opened: its bytes and its three numbers.
-/
import Derived.Test.YthmfbkmdhnfbnaaOpenBytes
import Derived.Test.YthmfbkmdhnfbnaaRows
import Derived.Test.YthmfbkmdhnfbnaaWMore
import Derived.Lib.SmallJoins
import Derived.WalkKit
import Derived.ProofKit
namespace Go.Proofs.Ythmfbkmdhnfbnaa.OpenBytes
open Go.RowKit Go.ChangeShapes Go.Joins Go.Deep Go.Proofs.YthmfbkmdhnfbnaaW.PrintWords Go.Proofs.YthmfbkmdhnfbnaaW.PrintLast Go.Proofs.YthmfbkmdhnfbnaaW.PrintMore

theorem cells28 : Try.prog.cellsOf 28 = 4 := by kernel_rfl
theorem cells23 : Try.prog.cellsOf 23 = 1 := by kernel_rfl
theorem cells5 : Try.prog.cellsOf 5 = 1 := by kernel_rfl
theorem ones28 : ∀ fs : Array Field, Try.prog.underlying 28 = some (.struct fs) → oneCellFields Try.prog fs = true := by
  intro fs h
  rw [Try.underlying28] at h
  injection h with h
  injection h with h
  subst h
  kernel_rfl

theorem open_bloom {H : Type} {enc : TypeId × Value → H} {W : World} {r : Reach} {b0 : Nat} {v : Value} {d : DataW H} {p : List MemPlace}
    (hv : Value.okWide Try.prog W r b0 28 v) (h : DataW.Trod enc Try.prog W 0 (fun _ => true) true 28 v d p) :
    ∃ (A : Option Addr) (c : Nat) (D : List Int) (fu tw fl : Int), v = .agg #[.slice A D.length c, .int .u32 fu, .int .u32 tw, .int .i64 fl] ∧ 0 ≤ fu ∧ (Lit.int .u32 tw).wf = true ∧
      Kd.C (Kd.int .u8) W A D.length D ∧ D.length ≤ c ∧ ∀ y ∈ D, 0 ≤ y ∧ y < 256 := by
  obtain ⟨v0, v1, v2, v3, y0, y1, y2, y3, n, rfl, -, -, h0, h1, h2, h3⟩ := open_agg4 Try.underlying28 (ones28 _ Try.underlying28) cells28 hv h
  obtain ⟨A, l, c, e0⟩ := slice_form Try.underlying23 h0
  obtain ⟨fu, e1, -, w1⟩ := DataW.trod_int Try.underlying22 h1
  obtain ⟨tw, e2, -, w2⟩ := DataW.trod_int Try.underlying22 h2
  obtain ⟨fl, e3, -, w3⟩ := DataW.trod_int Try.underlying3 h3
  simp only [List.cons.injEq, and_true] at e0 e1 e2 e3
  subst e0 e1 e2 e3
  obtain ⟨b, rfl, hC, hc, hr⟩ := open_bytes Try.underlying23 Try.underlying5 cells5 (⟨n, by simpa [Value.cells] using h0⟩ : DataW.Trod enc Try.prog W 0 (fun _ => true) true 23 (.slice A l c) y0.1 y0.2)
  refine ⟨A, c, b, fu, tw, fl, rfl, ?_, w2, hC, hc, hr⟩
  simp [Lit.wf, IntKind.min, IntKind.max, IntKind.signed, IntKind.bits] at w1
  omega
end Go.Proofs.Ythmfbkmdhnfbnaa.OpenBytes
