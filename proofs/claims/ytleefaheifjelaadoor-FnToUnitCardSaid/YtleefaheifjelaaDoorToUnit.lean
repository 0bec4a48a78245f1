/-
  The law FnToUnit returns true for every amount and every unit: the double that the package gives for the amount in the unit (mega, kilo, none, milli, micro, base; other units and amounts beyond ten to the power of fifteen are let pass) equals the amount divided by the power of ten. Condition: the three tables of powers of ten of the library hold what its text lays (tied).
-/
import Derived.Test.YtleefaheifjelaaDoorCards
import Derived.Test.YtleefaheifjelaaDoorTie
import Derived.Test.YtleefaheifjelaaDoorFtab
import Derived.Test.YtleefaheifjelaaDoorUnitWalk
import Derived.WalkKit
import Derived.ProofKit
import Derived.OpenShut
import Derived.Deep.DeepHandedRow
import Derived.Stop.LaidErr
namespace Go.Proofs.YtleefaheifjelaaDoor.fnToUnit
open Go.ChangeShapes Go.WideShapes Go.ChangeAt Go.RowKit

theorem own : ownKnob Tryd.prog.godebug = none := by kernel_rfl
theorem g_pow10tab : Tryd.prog.globalNamed "math.pow10tab" = some 2 := by kernel_rfl
theorem gt_pow10tab : (Tryd.prog.globals[2]?).map (·.type) = some 38 := by kernel_rfl
theorem ce_pow10tab : Tryd.prog.cellsOf 38 = 32 := by kernel_rfl
def z_pow10tab : List Nat := [4607182418800017408, 4621819117588971520, 4636737291354636288, 4652007308841189376, 4666723172467343360, 4681608360884174848, 4696837146684686336, 4711630319722168320, 4726483295884279808, 4741671816366391296, 4756540486875873280, 4771362005757984768, 4786511204640096256, 4801453603149578240, 4816244402031689728, 4831355200913801216, 4846369599423283200, 4861130398305394688, 4876203697187506176, 4891288408196988160, 4906019910204099648, 4921056587992461136, 4936209963552724370, 4950912855330343670, 4965913770331839924, 4981134201117475473, 4995809153217856309, 5010775143622804482, 5026061058026967681, 5040708725286295329, 5055640609639927018, 5070927765361438756]
theorem g_pow10postab32 : Tryd.prog.globalNamed "math.pow10postab32" = some 1 := by kernel_rfl
theorem gt_pow10postab32 : (Tryd.prog.globals[1]?).map (·.type) = some 36 := by kernel_rfl
theorem ce_pow10postab32 : Tryd.prog.cellsOf 36 = 10 := by kernel_rfl
def z_pow10postab32 : List Nat := [4607182418800017408, 5085611494797045271, 5564284217833028085, 6043257259031049059, 6521906365687930162, 7000496887210966211, 7479368607221621995, 7958223736346011545, 8436737289693151036, 8915514139102383430]
theorem g_pow10negtab32 : Tryd.prog.globalNamed "math.pow10negtab32" = some 3 := by kernel_rfl
theorem gt_pow10negtab32 : (Tryd.prog.globals[3]?).map (·.type) = some 39 := by kernel_rfl
theorem ce_pow10negtab32 : Tryd.prog.cellsOf 39 = 11 := by kernel_rfl
def z_pow10negtab32 : List Nat := [4607182418800017408, 4128101167230658355, 3649340653511681853, 3170840353250979498, 2691949749288605597, 2213095475689254516, 1734519108376626298, 1255832114822727210, 776877706278891331, 298220099847875929, 2024]
theorem ce22 : Tryd.prog.cellsOf 22 = 1 := by kernel_rfl

theorem tab_one {W : World} (h : laidMetH Tryd.prog Rows.fnToUnitRow.laid W) : Ftab.Is Tryd.prog W "math.pow10tab" .f64 z_pow10tab :=
  Ftab.of_head (rest := [("math.pow10postab32", Rows.laid_math_pow10postab32), ("math.pow10negtab32", Rows.laid_math_pow10negtab32)]) g_pow10tab gt_pow10tab Tryd.underlying38 Tryd.underlying22 ce22 ce_pow10tab h
theorem tab_post {W : World} (h : laidMetH Tryd.prog Rows.fnToUnitRow.laid W) : Ftab.Is Tryd.prog W "math.pow10postab32" .f64 z_pow10postab32 :=
  Ftab.of_head (rest := [("math.pow10negtab32", Rows.laid_math_pow10negtab32)]) g_pow10postab32 gt_pow10postab32 Tryd.underlying36 Tryd.underlying22 ce22 ce_pow10postab32
    (laidMet.tail (x := ("math.pow10tab", Rows.laid_math_pow10tab)) h)

-- the walk, for every argument
set_option maxRecDepth 100000 in
theorem walk (a u : Int) (W : World) (hL : laidMetH Tryd.prog Rows.fnToUnitRow.laid W) : Calls Tryd.prog 3 #[.int .i64 a, .int .i64 u] W fun e w' => e = .returned (.bool true) ∧ Grown W w' := by
  have fin : ∀ (e : Ending) (w' : World), (e = .returned (.bool true) ∧ ∃ n, w' = W.drewN n) → e = .returned (.bool true) ∧ Grown W w' := by
    rintro e w' ⟨h, n, rfl⟩
    refine ⟨h, ?_⟩
    induction n with
    | zero => exact Grown.refl _
    | succ n ih => exact Grown.drew ih
  have c0 : W.cell? ⟨1, 0, none⟩ = some (.float .f64 4607182418800017408) := (tab_post hL).cell g_pow10postab32 0 (by decide)
  by_cases h0 : a < -1000000000000000 ∨ 1000000000000000 < a
  · exact (law_out a u W h0).mono fin
  by_cases e_p6 : u = 6
  · subst e_p6
    have c1 : W.cell? ⟨2, 14, none⟩ = some (.float .f64 4816244402031689728) := (tab_one hL).cell g_pow10tab 14 (by decide)
    exact (law_p6 a W (by omega) (by omega) c0 c1).mono fin
  by_cases e_p3 : u = 3
  · subst e_p3
    have c1 : W.cell? ⟨2, 11, none⟩ = some (.float .f64 4771362005757984768) := (tab_one hL).cell g_pow10tab 11 (by decide)
    exact (law_p3 a W (by omega) (by omega) c0 c1).mono fin
  by_cases e_p0 : u = 0
  · subst e_p0
    have c1 : W.cell? ⟨2, 8, none⟩ = some (.float .f64 4726483295884279808) := (tab_one hL).cell g_pow10tab 8 (by decide)
    exact (law_p0 a W (by omega) (by omega) c0 c1).mono fin
  by_cases e_m3 : u = -3
  · subst e_m3
    have c1 : W.cell? ⟨2, 5, none⟩ = some (.float .f64 4681608360884174848) := (tab_one hL).cell g_pow10tab 5 (by decide)
    exact (law_m3 a W (by omega) (by omega) c0 c1).mono fin
  by_cases e_m6 : u = -6
  · subst e_m6
    have c1 : W.cell? ⟨2, 2, none⟩ = some (.float .f64 4636737291354636288) := (tab_one hL).cell g_pow10tab 2 (by decide)
    exact (law_m6 a W (by omega) (by omega) c0 c1).mono fin
  by_cases e_m8 : u = -8
  · subst e_m8
    have c1 : W.cell? ⟨2, 0, none⟩ = some (.float .f64 4607182418800017408) := (tab_one hL).cell g_pow10tab 0 (by decide)
    exact (law_m8 a W (by omega) (by omega) c0 c1).mono fin
  exact (law_unit a u W (by omega) (by omega) (beq_eq_false_iff_ne.2 e_p6) (beq_eq_false_iff_ne.2 e_p3) (beq_eq_false_iff_ne.2 e_p0) (beq_eq_false_iff_ne.2 e_m3) (beq_eq_false_iff_ne.2 e_m6) (beq_eq_false_iff_ne.2 e_m8)).mono fin

set_option maxRecDepth 100000 in
theorem contract (H : Type) (enc : TypeId × Value → H) (W : World) (base : Nat) (args : Array Value) (ds gs : List (DataW H)) (before : List MemPlace)
    (hval : ∀ (j : Nat) t v, Tryd.f3.params[j]? = some t → args[j]? = some v → Value.okWide Tryd.prog W .any base t v)
    (hW : DataW.Whole enc Tryd.prog Tryd.f3.params.toList Rows.fnToUnitSpec.vars false W args.toList ds gs before) (hL : laidMetH Tryd.prog Rows.fnToUnitRow.laid W) :
    Calls Tryd.prog 3 args W fun e W' => ∃ v, e = .returned v ∧ Rows.fnToUnitSpec.post enc Tryd.prog Tryd.f3 false true false false W args v W' := by
  have hW' := hW
  obtain ⟨p, q, hA0, hV, rfl, hfz, hnd⟩ := hW
  have hA : DataW.TrodAll enc Tryd.prog W 0 (fun _ => true) true Tryd.f3.params.toList args.toList ds p := hA0
  rw [Tryd.params3] at hA hval
  obtain ⟨v0, vs0, d0, ds0, p0, q0, hargs, rfl, rfl, h0, r0⟩ := trodAll_cons hA
  obtain ⟨v1, vs1, d1, ds1, p1, q1, rfl, rfl, rfl, h1, r1⟩ := trodAll_cons r0
  obtain ⟨rfl, rfl, rfl⟩ := trodAll_nil r1
  obtain rfl : args = #[v0, v1] := by cases args; simp_all
  obtain ⟨rfl, rfl⟩ := trodVars_none hV
  obtain ⟨a0, rfl, rfl, rfl, w0⟩ := open_int Tryd.underlying2 (hval 0 2 v0 rfl rfl) h0
  obtain ⟨a1, rfl, rfl, rfl, w1⟩ := open_int Tryd.underlying3 (hval 1 3 v1 rfl rfl) h1
  clear hA0
  simp only [List.append_nil] at hW'
  refine (walk a0 a1 W hL).mono fun e W' ⟨he, hg⟩ => ?_
  subst he
  exact ⟨_, rfl, post_of_same (pa := []) (pv := []) hW' (fun _ _ _ => trodAll_cons_mk (shut_bool Tryd.underlying4 _) trodAll_mk0) (fun _ _ => trodAll_cons_mk (shut_int Tryd.underlying2 w0) (trodAll_cons_mk (shut_int Tryd.underlying3 w1) trodAll_mk0)) (fun _ _ => rfl) rfl
    (hg.frame _) hg.2.1 (ok_one (by kernel_rfl) rfl (okWide_bool_mk Tryd.underlying4 _))⟩

/- A world for the witness: the settled one, the tables holding what the library lays. -/
def setBlk (cs : Array Value) : Obj → Obj
  | .cells _ t frozen => .cells cs t frozen
  | o => o
noncomputable def laidWorld (os : Os) : World :=
  let w0 := World.holding Tryd.prog os ⟨#[], #[], []⟩
  { w0 with heap := ((w0.heap.modify 1 (setBlk (z_pow10postab32.map (Value.float .f64)).toArray)).modify 2 (setBlk (z_pow10tab.map (Value.float .f64)).toArray)).modify 3 (setBlk (z_pow10negtab32.map (Value.float .f64)).toArray) }
theorem laid_met (os : Os) : laidMet Tryd.prog Rows.fnToUnitRow.laid ((laidWorld os).forCall (fun _ _ => 0) ⟨#[], #[.int .i64 0, .int .i64 0], []⟩).memory :=
  laidMet_of_run' 8 (by kernel_rfl) (by kernel_rfl)
theorem reads (os : Os) {H : Type} (enc : TypeId × Value → H) : ∃ places, DataW.whole enc Tryd.prog ((laidWorld os).forCall (fun _ _ => 0) ⟨#[], #[.int .i64 0, .int .i64 0], []⟩).memory Tryd.f3.params.toList Rows.fnToUnitSpec.vars false #[Value.int .i64 0, Value.int .i64 0].toList 8 = some ([.lit (.int .i64 0), .lit (.int .i64 0)], [], places) :=
  ⟨[], by kernel_rfl⟩

theorem wit_vars (os : Os) : ((laidWorld os).forCall (fun _ _ => 0) ⟨#[], #[.int .i64 0, .int .i64 0], []⟩).variablesB Tryd.checked.prog = true := by kernel_rfl
theorem wit_heap (os : Os) : (((laidWorld os).forCall (fun _ _ => 0) ⟨#[], #[.int .i64 0, .int .i64 0], []⟩).heap.toList.drop Tryd.checked.prog.globals.size).take ((begin Tryd.checked.prog (fun _ _ => 0) default).world.heap.size - Tryd.checked.prog.globals.size) =
      (begin Tryd.checked.prog (fun _ _ => 0) default).world.heap.toList.drop Tryd.checked.prog.globals.size := by kernel_rfl
theorem wit_ok (os : Os) : Input.okWideB Tryd.checked.prog ((laidWorld os).forCall (fun _ _ => 0) ⟨#[], #[.int .i64 0, .int .i64 0], []⟩) 3 ⟨#[], #[.int .i64 0, .int .i64 0], []⟩ = true := by kernel_rfl
theorem wit_sized (os : Os) {H : Type} (enc : TypeId × Value → H) : (OpenSpec.ofChange Rows.fnToUnitSpec).bare.sizedB enc Tryd.prog Tryd.f3 false ((laidWorld os).forCall (fun _ _ => 0) ⟨#[], #[.int .i64 0, .int .i64 0], []⟩).memory #[.int .i64 0, .int .i64 0] 8 = true := by kernel_rfl

set_option maxRecDepth 100000 in
theorem lifted (os : Os) (started : os.Started) (H : Type) (enc : TypeId × Value → H) (F : Stop.Interp) :
    ReturnsInHanded {} Tryd.checked os 3 .any ((OpenSpec.ofChange Rows.fnToUnitSpec).preRow enc Tryd.prog Tryd.f3 Rows.fnToUnitRow.domain false Rows.fnToUnitRow.laid) (((OpenSpec.ofChange Rows.fnToUnitSpec).at F).post enc Tryd.prog Tryd.f3 false true false false) := by
  obtain ⟨places, hx⟩ := reads os enc
  refine returnsInHanded_of_row (C := Tryd.checked) (s := OpenSpec.ofChange Rows.fnToUnitSpec) own started (by kernel_rfl) Tryd.func3
    (witness_row_at (enc := enc) (C := Tryd.checked) false (laidWorld os) #[.int .i64 0, .int .i64 0] rfl (wit_vars os) (wit_heap os) (wit_ok os)
      (OpenSpec.preRow_of_cond 8 hx (by kernel_rfl) (fun k hk => by cases hk) (wit_sized os enc) (laid_met os))) ?_
  intro W base args ds gs before hval hW _ _ _ hL _ _
  exact contract H enc W base args ds gs before hval hW hL

theorem said : Rows.FnToUnitSaid :=
  OpenClaim.holds_of_cond 3 Tryd.f3 rfl rfl rfl rfl rfl rfl rfl ⟨rfl, rfl, rfl, rfl, rfl⟩ rfl rfl rfl rfl rfl (by kernel_rfl) Tryd.func3 (by kernel_rfl)
    (of_decide_eq_true (by kernel_rfl)) (by unfold Func.isWrapper; first | (rw [if_pos (by decide +kernel)]; kernel_rfl) | (rw [if_neg (by decide +kernel)]; exact ⟨rfl, rfl⟩))
    (fun os started H enc _ F => by rw [OpenClaim.pre_eq_preRow]; exact lifted os started H enc F)

theorem plain (f : FuncId) (fn : Func) (hf : Tryd.pinned.checked.prog.funcNamed "loop.example/pub-g03073/laws.FnToUnit" = some f) (hfn : Tryd.pinned.checked.prog.funcs[f]? = some fn) :
    false = Tryd.pinned.checked.prog.looks [] ∧ ∀ (j : Nat) t, fn.params[j]? = some t → Tryd.pinned.checked.prog.wantsStandIn t = false := by
  obtain rfl : f = 3 := Option.some.inj ((show Tryd.prog.funcNamed "loop.example/pub-g03073/laws.FnToUnit" = some 3 by kernel_rfl).symm.trans hf) |>.symm
  obtain rfl : fn = Tryd.f3 := (Option.some.inj (Tryd.func3.symm.trans hfn)).symm
  refine ⟨by kernel_rfl, fun j t ht => ?_⟩
  rw [Tryd.params3] at ht
  have hm : t = 2 ∨ t = 3 := by simpa using Array.mem_of_getElem? ht
  rcases hm with rfl | rfl
  · exact (show Tryd.prog.wantsStandIn 2 = false by kernel_rfl)
  · exact (show Tryd.prog.wantsStandIn 3 = false by kernel_rfl)

/-- The card. -/
theorem card : Rows.FnToUnitCardSaid :=
  Claim7.holds_tied_plain_at .later [] _ _ _ _ said (fun _ h => by cases h) (by kernel_rfl) (fun _ h => by cases h) fnToUnit_row_tie rfl ⟨rfl, rfl⟩ (by kernel_rfl) rfl plain (by kernel_rfl)
#print axioms card
end Go.Proofs.YtleefaheifjelaaDoor.fnToUnit
