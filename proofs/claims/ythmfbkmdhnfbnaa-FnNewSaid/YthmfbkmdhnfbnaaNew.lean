/-
  The law FnNew returns true for all numbers of elements, tweaks, rates and flags: a new filter for 1 to 500 elements at a rate of 1 to 500 thousandths has the tweak and the flags that are told, at most 50 functions and 36000 bytes, all of them 0.
-/
import Derived.Test.YthmfbkmdhnfbnaaRows
import Derived.Test.YthmfbkmdhnfbnaaNewLaw
import Derived.Test.YthmfbkmdhnfbnaaOpenBytes
import Derived.WalkKit
import Derived.ProofKit
import Derived.OpenShut
import Derived.ShutString
import Derived.ChangeOld
import Derived.Below
import Derived.Deep.DeepHandedRow
namespace Go.Proofs.Ythmfbkmdhnfbnaa.fnNew
open Go.ChangeShapes Go.WideShapes Go.ChangeAt Go.RowKit
open Go.ChangeMaps (open_string shut_string)
set_option linter.unusedVariables false

theorem own : ownKnob Try.prog.godebug = none := by kernel_rfl
theorem laidOut : laidOutB Try.prog = true := by kernel_rfl

set_option maxRecDepth 100000 in
theorem contract (H : Type) (enc : TypeId × Value → H) (W : World) (base : Nat) (args : Array Value) (ds gs : List (DataW H)) (before : List MemPlace)
    (hval : ∀ (j : Nat) t v, Try.f6.params[j]? = some t → args[j]? = some v → Value.okWide Try.prog W .any base t v)
    (hW : DataW.Whole enc Try.prog Try.f6.params.toList Rows.fnNewSpec.vars false W args.toList ds gs before)
    (hsz : (DataW.weightsEach Try.prog (Try.f6.params.toList ++ []) (ds ++ gs)).all (fun x => decide (x ≤ reachBytes)) = true) :
    Calls Try.prog 6 args W fun e W' => ∃ v, e = .returned v ∧ Rows.fnNewSpec.post enc Try.prog Try.f6 false true false false W args v W' := by
  have hW' := hW
  obtain ⟨p, q, hA0, hV, rfl, hfz, hnd⟩ := hW
  have hA : DataW.TrodAll enc Try.prog W 0 (fun _ => true) true Try.f6.params.toList args.toList ds p := hA0
  rw [Try.params6] at hA hval hsz
  obtain ⟨v0, vs0, d0, ds0, p0, q0, hargs, rfl, rfl, h0, r0⟩ := trodAll_cons hA
  obtain ⟨v1, vs1, d1, ds1, p1, q1, rfl, rfl, rfl, h1, r1⟩ := trodAll_cons r0
  obtain ⟨v2, vs2, d2, ds2, p2, q2, rfl, rfl, rfl, h2, r2⟩ := trodAll_cons r1
  obtain ⟨v3, vs3, d3, ds3, p3, q3, rfl, rfl, rfl, h3, r3⟩ := trodAll_cons r2
  obtain ⟨rfl, rfl, rfl⟩ := trodAll_nil r3
  obtain rfl : args = #[v0, v1, v2, v3] := by cases args; simp_all
  obtain ⟨rfl, rfl⟩ := trodVars_none hV
  have k0 := h0
  have lt0 : ∀ x ∈ p0, x.block < W.heap.size := by obtain ⟨m, hm⟩ := k0; exact DataW.trod_lt m _ _ _ hm
  have k1 := h1
  have lt1 : ∀ x ∈ p1, x.block < W.heap.size := by obtain ⟨m, hm⟩ := k1; exact DataW.trod_lt m _ _ _ hm
  have k2 := h2
  have lt2 : ∀ x ∈ p2, x.block < W.heap.size := by obtain ⟨m, hm⟩ := k2; exact DataW.trod_lt m _ _ _ hm
  have k3 := h3
  have lt3 : ∀ x ∈ p3, x.block < W.heap.size := by obtain ⟨m, hm⟩ := k3; exact DataW.trod_lt m _ _ _ hm
  obtain ⟨a0, rfl, hcs0, hds0, w0⟩ := open_int Try.underlying22 (hval 0 22 v0 rfl rfl) h0
  obtain ⟨a1, rfl, hcs1, hds1, w1⟩ := open_int Try.underlying22 (hval 1 22 v1 rfl rfl) h1
  obtain ⟨a2, rfl, hcs2, hds2, w2⟩ := open_int Try.underlying3 (hval 2 3 v2 rfl rfl) h2
  obtain ⟨a3, rfl, hcs3, hds3, w3⟩ := open_int Try.underlying5 (hval 3 5 v3 rfl rfl) h3
  clear hA0
  refine (PFnNew.law_calls a0 a1 a2 a3 W (OpenBytes.range_u8 w3).1).mono fun e W' ⟨he, bel⟩ => ?_
  subst he
  exact ⟨_, rfl, _, _, _, [], _, [], hW', trodAll_mk1 (shut_bool Try.underlying4 _), (trodAll_cons_mk (Below.trod laidOut (by kernel_rfl) (of_decide_eq_true (by kernel_rfl)) k0 bel lt0) (trodAll_cons_mk (Below.trod laidOut (by kernel_rfl) (of_decide_eq_true (by kernel_rfl)) k1 bel lt1) (trodAll_cons_mk (Below.trod laidOut (by kernel_rfl) (of_decide_eq_true (by kernel_rfl)) k2 bel lt2) (trodAll_cons_mk (Below.trod laidOut (by kernel_rfl) (of_decide_eq_true (by kernel_rfl)) k3 bel lt3) trodAll_mk0)))), rfl, bel.frame _, fun h => by cases h⟩

noncomputable def laidWorld (os : Os) : World := World.holding Try.prog os ⟨#[], #[], []⟩
theorem laid_met (os : Os) : laidMet Try.prog Rows.fnNewRow.laid ((laidWorld os).forCall (fun _ _ => 0) ⟨#[], #[.int .u32 0, .int .u32 0, .int .i64 0, .int .u8 0], []⟩).memory :=
  laidMet_nil _ _
theorem reads (os : Os) {H : Type} (enc : TypeId × Value → H) : ∃ places, DataW.whole enc Try.prog ((laidWorld os).forCall (fun _ _ => 0) ⟨#[], #[.int .u32 0, .int .u32 0, .int .i64 0, .int .u8 0], []⟩).memory Try.f6.params.toList Rows.fnNewSpec.vars false #[.int .u32 0, .int .u32 0, .int .i64 0, .int .u8 0].toList 8 = some ([.lit (.int .u32 0), .lit (.int .u32 0), .lit (.int .i64 0), .lit (.int .u8 0)], [], places) :=
  ⟨[], by kernel_rfl⟩
theorem wit_vars (os : Os) : ((laidWorld os).forCall (fun _ _ => 0) ⟨#[], #[.int .u32 0, .int .u32 0, .int .i64 0, .int .u8 0], []⟩).variablesB Try.checked.prog = true := by kernel_rfl
theorem wit_heap (os : Os) : (((laidWorld os).forCall (fun _ _ => 0) ⟨#[], #[.int .u32 0, .int .u32 0, .int .i64 0, .int .u8 0], []⟩).heap.toList.drop Try.checked.prog.globals.size).take ((begin Try.checked.prog (fun _ _ => 0) default).world.heap.size - Try.checked.prog.globals.size) =
      (begin Try.checked.prog (fun _ _ => 0) default).world.heap.toList.drop Try.checked.prog.globals.size := by kernel_rfl
theorem wit_ok (os : Os) : Input.okWideB Try.checked.prog ((laidWorld os).forCall (fun _ _ => 0) ⟨#[], #[.int .u32 0, .int .u32 0, .int .i64 0, .int .u8 0], []⟩) 6 ⟨#[], #[.int .u32 0, .int .u32 0, .int .i64 0, .int .u8 0], []⟩ = true := by kernel_rfl
theorem wit_sized (os : Os) {H : Type} (enc : TypeId × Value → H) : (OpenSpec.ofChange Rows.fnNewSpec).bare.sizedB enc Try.prog Try.f6 false ((laidWorld os).forCall (fun _ _ => 0) ⟨#[], #[.int .u32 0, .int .u32 0, .int .i64 0, .int .u8 0], []⟩).memory #[.int .u32 0, .int .u32 0, .int .i64 0, .int .u8 0] 8 = true := by kernel_rfl

set_option maxRecDepth 100000 in
theorem lifted (os : Os) (started : os.Started) (H : Type) (enc : TypeId × Value → H) (F : Stop.Interp) :
    ReturnsInHanded {} Try.checked os 6 .any ((OpenSpec.ofChange Rows.fnNewSpec).preRow enc Try.prog Try.f6 Rows.fnNewRow.domain false Rows.fnNewRow.laid) (((OpenSpec.ofChange Rows.fnNewSpec).at F).post enc Try.prog Try.f6 false true false false) := by
  obtain ⟨places, hx⟩ := reads os enc
  refine returnsInHanded_of_row (C := Try.checked) (s := OpenSpec.ofChange Rows.fnNewSpec) own started (by kernel_rfl) Try.func6
    (witness_row_at (enc := enc) (C := Try.checked) false (laidWorld os) #[.int .u32 0, .int .u32 0, .int .i64 0, .int .u8 0] rfl (wit_vars os) (wit_heap os) (wit_ok os)
      (OpenSpec.preRow_of_cond 8 hx (by kernel_rfl) (fun k hk => by cases hk) (wit_sized os enc) (laid_met os))) ?_
  intro W base args ds gs before hval hW _ _ hsz hL _ _
  exact contract H enc W base args ds gs before hval hW hsz

theorem said : Rows.FnNewSaid :=
  OpenClaim.holds_of_cond 6 Try.f6 rfl rfl rfl rfl rfl rfl rfl ⟨rfl, rfl, rfl, rfl, rfl⟩ rfl rfl rfl rfl rfl (by kernel_rfl) Try.func6 (by kernel_rfl)
    (of_decide_eq_true (by kernel_rfl)) (by unfold Func.isWrapper; first | (rw [if_pos (by decide +kernel)]; kernel_rfl) | (rw [if_neg (by decide +kernel)]; exact ⟨rfl, rfl⟩))
    (fun os started H enc _ F => by rw [OpenClaim.pre_eq_preRow]; exact lifted os started H enc F)

/-- The statement. -/
theorem proved : Rows.FnNewSaid := said
#print axioms proved
end Go.Proofs.Ythmfbkmdhnfbnaa.fnNew
