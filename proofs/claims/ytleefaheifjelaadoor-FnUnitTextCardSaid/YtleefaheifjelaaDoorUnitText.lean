/-
  The law FnUnitText returns true for every unit: one of -20 to 20 that has no name of its own is called 1e, the unit's decimal numeral and BTC. Condition: the three tables of the standard library that writing a number reads hold what their texts lay (tied).
-/
import Derived.Test.YtleefaheifjelaaDoorCards
import Derived.Test.YtleefaheifjelaaDoorTie
import Derived.Test.YtleefaheifjelaaDoorTextWalk
import Derived.Lib.LaidTab
import Derived.WalkKit
import Derived.ProofKit
import Derived.OpenShut
import Derived.ShutString
import Derived.ChangeOld
import Derived.Below
import Derived.Deep.DeepHandedRow
import Derived.Stop.LaidErr
namespace Go.Proofs.YtleefaheifjelaaDoor.fnUnitText
open Go.ChangeShapes Go.WideShapes Go.ChangeAt Go.RowKit
open Go.ChangeMaps (open_string shut_string)
set_option linter.unusedVariables false

theorem own : ownKnob Tryd.prog.godebug = none := by kernel_rfl
theorem laidOut : laidOutB Tryd.prog = true := by kernel_rfl

def z_deBruijn32tab : List Int := [0, 1, 28, 2, 29, 14, 24, 3, 30, 22, 20, 15, 25, 17, 4, 8, 31, 27, 13, 23, 21, 19, 16, 7, 26, 12, 18, 6, 11, 5, 10, 9]
def z_deBruijn64tab : List Int := [0, 1, 56, 2, 57, 49, 28, 3, 61, 58, 42, 50, 38, 29, 17, 4, 62, 47, 59, 36, 45, 43, 51, 22, 53, 39, 33, 30, 24, 18, 12, 5, 63, 55, 48, 27, 60, 41, 37, 16, 46, 35, 44, 21, 52, 32, 23, 11, 54, 26, 40, 15, 34, 20, 31, 10, 25, 14, 19, 9, 13, 8, 7, 6]
def z_uint64pow10 : List Int := [1, 10, 100, 1000, 10000, 100000, 1000000, 10000000, 100000000, 1000000000, 10000000000, 100000000000, 1000000000000, 10000000000000, 100000000000000, 1000000000000000, 10000000000000000, 100000000000000000, 1000000000000000000, 10000000000000000000]
theorem g_pow : Tryd.prog.globalNamed "internal/strconv.uint64pow10" = some 4 := by kernel_rfl
theorem gt_pow : (Tryd.prog.globals[4]?).map (·.type) = some 49 := by kernel_rfl
theorem ce49 : Tryd.prog.cellsOf 49 = 20 := by kernel_rfl
theorem ce_pow : Tryd.prog.cellsOf 40 = 1 := by kernel_rfl
theorem tab_pow {W : World} (h : laidMetH Tryd.prog Rows.fnUnitTextRow.laid W) : Lib.TabIs Tryd.prog W "internal/strconv.uint64pow10" .u64 Lib.pow10Tab :=
  Lib.tabIs_of_head (rest := []) g_pow gt_pow Tryd.underlying49 Tryd.underlying40 ce_pow ce49
    (laidMet.tail (x := ("math/bits.deBruijn64tab", Rows.laid_math_bits_deBruijn64tab)) (laidMet.tail (x := ("math/bits.deBruijn32tab", Rows.laid_math_bits_deBruijn32tab)) h))

set_option maxRecDepth 100000 in
theorem contract (H : Type) (enc : TypeId × Value → H) (W : World) (base : Nat) (args : Array Value) (ds gs : List (DataW H)) (before : List MemPlace)
    (hval : ∀ (j : Nat) t v, Tryd.f4.params[j]? = some t → args[j]? = some v → Value.okWide Tryd.prog W .any base t v)
    (hW : DataW.Whole enc Tryd.prog Tryd.f4.params.toList Rows.fnUnitTextSpec.vars false W args.toList ds gs before) (hL : laidMetH Tryd.prog Rows.fnUnitTextRow.laid W)
    (hsz : (DataW.weightsEach Tryd.prog (Tryd.f4.params.toList ++ []) (ds ++ gs)).all (fun x => decide (x ≤ reachBytes)) = true) :
    Calls Tryd.prog 4 args W fun e W' => ∃ v, e = .returned v ∧ Rows.fnUnitTextSpec.post enc Tryd.prog Tryd.f4 false true false false W args v W' := by
  have hW' := hW
  obtain ⟨p, q, hA0, hV, rfl, hfz, hnd⟩ := hW
  have hA : DataW.TrodAll enc Tryd.prog W 0 (fun _ => true) true Tryd.f4.params.toList args.toList ds p := hA0
  rw [Tryd.params4] at hA hval hsz
  obtain ⟨v0, vs0, d0, ds0, p0, q0, hargs, rfl, rfl, h0, r0⟩ := trodAll_cons hA
  obtain ⟨rfl, rfl, rfl⟩ := trodAll_nil r0
  obtain rfl : args = #[v0] := by cases args; simp_all
  obtain ⟨rfl, rfl⟩ := trodVars_none hV
  have k0 := h0
  have lt0 : ∀ x ∈ p0, x.block < W.heap.size := by obtain ⟨m, hm⟩ := k0; exact DataW.trod_lt m _ _ _ hm
  obtain ⟨a0, rfl, hcs0, hds0, w0⟩ := open_int Tryd.underlying3 (hval 0 3 v0 rfl rfl) h0
  clear hA0
  refine (law_text a0 W (tab_pow hL)).mono fun e W' ⟨he, bel⟩ => ?_
  subst he
  exact ⟨_, rfl, _, _, _, [], _, [], hW', trodAll_mk1 (shut_bool Tryd.underlying4 _), (trodAll_cons_mk (Below.trod laidOut (by kernel_rfl) (of_decide_eq_true (by kernel_rfl)) k0 bel lt0) trodAll_mk0), rfl, bel.frame _, fun h => by cases h⟩

def setBlk (cs : Array Value) : Obj → Obj
  | .cells _ t frozen => .cells cs t frozen
  | o => o
noncomputable def laidWorld (os : Os) : World :=
  let w0 := World.holding Tryd.prog os ⟨#[], #[], []⟩
  { w0 with heap := (((w0.heap.modify 5 (setBlk (z_deBruijn32tab.map (Value.int .u8)).toArray)).modify 6 (setBlk (z_deBruijn64tab.map (Value.int .u8)).toArray)).modify 4 (setBlk (z_uint64pow10.map (Value.int .u64)).toArray)) }
theorem laid_met (os : Os) : laidMet Tryd.prog Rows.fnUnitTextRow.laid ((laidWorld os).forCall (fun _ _ => 0) ⟨#[], #[.int .i64 0], []⟩).memory :=
  laidMet_of_run' 8 (by kernel_rfl) (by kernel_rfl)
theorem reads (os : Os) {H : Type} (enc : TypeId × Value → H) : ∃ places, DataW.whole enc Tryd.prog ((laidWorld os).forCall (fun _ _ => 0) ⟨#[], #[.int .i64 0], []⟩).memory Tryd.f4.params.toList Rows.fnUnitTextSpec.vars false #[.int .i64 0].toList 8 = some ([.lit (.int .i64 0)], [], places) :=
  ⟨[], by kernel_rfl⟩
theorem wit_vars (os : Os) : ((laidWorld os).forCall (fun _ _ => 0) ⟨#[], #[.int .i64 0], []⟩).variablesB Tryd.checked.prog = true := by kernel_rfl
theorem wit_heap (os : Os) : (((laidWorld os).forCall (fun _ _ => 0) ⟨#[], #[.int .i64 0], []⟩).heap.toList.drop Tryd.checked.prog.globals.size).take ((begin Tryd.checked.prog (fun _ _ => 0) default).world.heap.size - Tryd.checked.prog.globals.size) =
      (begin Tryd.checked.prog (fun _ _ => 0) default).world.heap.toList.drop Tryd.checked.prog.globals.size := by kernel_rfl
theorem wit_ok (os : Os) : Input.okWideB Tryd.checked.prog ((laidWorld os).forCall (fun _ _ => 0) ⟨#[], #[.int .i64 0], []⟩) 4 ⟨#[], #[.int .i64 0], []⟩ = true := by kernel_rfl
theorem wit_sized (os : Os) {H : Type} (enc : TypeId × Value → H) : (OpenSpec.ofChange Rows.fnUnitTextSpec).bare.sizedB enc Tryd.prog Tryd.f4 false ((laidWorld os).forCall (fun _ _ => 0) ⟨#[], #[.int .i64 0], []⟩).memory #[.int .i64 0] 8 = true := by kernel_rfl

set_option maxRecDepth 100000 in
theorem lifted (os : Os) (started : os.Started) (H : Type) (enc : TypeId × Value → H) (F : Stop.Interp) :
    ReturnsInHanded {} Tryd.checked os 4 .any ((OpenSpec.ofChange Rows.fnUnitTextSpec).preRow enc Tryd.prog Tryd.f4 Rows.fnUnitTextRow.domain false Rows.fnUnitTextRow.laid) (((OpenSpec.ofChange Rows.fnUnitTextSpec).at F).post enc Tryd.prog Tryd.f4 false true false false) := by
  obtain ⟨places, hx⟩ := reads os enc
  refine returnsInHanded_of_row (C := Tryd.checked) (s := OpenSpec.ofChange Rows.fnUnitTextSpec) own started (by kernel_rfl) Tryd.func4
    (witness_row_at (enc := enc) (C := Tryd.checked) false (laidWorld os) #[.int .i64 0] rfl (wit_vars os) (wit_heap os) (wit_ok os)
      (OpenSpec.preRow_of_cond 8 hx (by kernel_rfl) (fun k hk => by cases hk) (wit_sized os enc) (laid_met os))) ?_
  intro W base args ds gs before hval hW _ _ hsz hL _ _
  exact contract H enc W base args ds gs before hval hW hL hsz

theorem said : Rows.FnUnitTextSaid :=
  OpenClaim.holds_of_cond 4 Tryd.f4 rfl rfl rfl rfl rfl rfl rfl ⟨rfl, rfl, rfl, rfl, rfl⟩ rfl rfl rfl rfl rfl (by kernel_rfl) Tryd.func4 (by kernel_rfl)
    (of_decide_eq_true (by kernel_rfl)) (by unfold Func.isWrapper; first | (rw [if_pos (by decide +kernel)]; kernel_rfl) | (rw [if_neg (by decide +kernel)]; exact ⟨rfl, rfl⟩))
    (fun os started H enc _ F => by rw [OpenClaim.pre_eq_preRow]; exact lifted os started H enc F)

theorem plain (f : FuncId) (fn : Func) (hf : Tryd.pinned.checked.prog.funcNamed "loop.example/pub-g03073/laws.FnUnitText" = some f) (hfn : Tryd.pinned.checked.prog.funcs[f]? = some fn) :
    false = Tryd.pinned.checked.prog.looks [] ∧ ∀ (j : Nat) t, fn.params[j]? = some t → Tryd.pinned.checked.prog.wantsStandIn t = false := by
  obtain rfl : f = 4 := Option.some.inj ((show Tryd.prog.funcNamed "loop.example/pub-g03073/laws.FnUnitText" = some 4 by kernel_rfl).symm.trans hf) |>.symm
  obtain rfl : fn = Tryd.f4 := (Option.some.inj (Tryd.func4.symm.trans hfn)).symm
  refine ⟨by kernel_rfl, fun j t ht => ?_⟩
  rw [Tryd.params4] at ht
  have hm : t = 3 := by simpa using Array.mem_of_getElem? ht
  subst hm
  exact (show Tryd.prog.wantsStandIn 3 = false by kernel_rfl)

/-- The card. -/
theorem card : Rows.FnUnitTextCardSaid :=
  Claim7.holds_tied_plain_at .later [] _ _ _ _ said (fun _ h => by cases h) (by kernel_rfl) (fun _ h => by cases h) fnUnitText_row_tie rfl ⟨rfl, rfl⟩ (by kernel_rfl) rfl plain (by kernel_rfl)
#print axioms card
end Go.Proofs.YtleefaheifjelaaDoor.fnUnitText
