/-
  The law FnAmountText returns true for every amount and every unit: the text that the package gives for an amount in a unit (mega, kilo, none, milli, micro, base; other units and amounts beyond ten to the power of fifteen are let pass) is the amount as a decimal number, with the unit's name behind it. Condition: the nine tables and settings of the library hold what its text lays (tied).
-/
import Derived.Test.YtkcbalikahmeiaaDoorLawEnv
import Derived.Test.YtkcbalikahmeiaaDoorCards
import Derived.Test.YtkcbalikahmeiaaDoorTie
import Derived.WalkKit
import Derived.ProofKit
import Derived.OpenShut
import Derived.Lay
import Derived.MakeChecks
import Derived.LaidOnce
import Derived.SevenTiedAt
namespace Go.Proofs.YtkcbalikahmeiaaDoor.fnAmountText
open Go.ChangeShapes Go.WideShapes Go.ChangeAt Go.RowKit Go.Proofs.YtkcbalikahmeiaaDoor.Aft

theorem own : ownKnob Tryd.prog.godebug = none := by kernel_rfl
theorem g_num : Tryd.prog.globalNamed "internal/strconv.uint64pow10" = some 5 := by kernel_rfl
theorem t_num : (Tryd.prog.globals[5]?).map (·.type) = some 71 := by kernel_rfl
theorem ce_num : Tryd.prog.cellsOf 71 = 20 := by kernel_rfl
theorem g_pow10tab : Tryd.prog.globalNamed "math.pow10tab" = some 2 := by kernel_rfl
theorem t_pow10tab : (Tryd.prog.globals[2]?).map (·.type) = some 42 := by kernel_rfl
theorem ce_pow10tab : Tryd.prog.cellsOf 42 = 32 := by kernel_rfl
def z_pow10tab : List Nat := [4607182418800017408, 4621819117588971520, 4636737291354636288, 4652007308841189376, 4666723172467343360, 4681608360884174848, 4696837146684686336, 4711630319722168320, 4726483295884279808, 4741671816366391296, 4756540486875873280, 4771362005757984768, 4786511204640096256, 4801453603149578240, 4816244402031689728, 4831355200913801216, 4846369599423283200, 4861130398305394688, 4876203697187506176, 4891288408196988160, 4906019910204099648, 4921056587992461136, 4936209963552724370, 4950912855330343670, 4965913770331839924, 4981134201117475473, 4995809153217856309, 5010775143622804482, 5026061058026967681, 5040708725286295329, 5055640609639927018, 5070927765361438756]
theorem g_post : Tryd.prog.globalNamed "math.pow10postab32" = some 1 := by kernel_rfl
theorem t_post : (Tryd.prog.globals[1]?).map (·.type) = some 40 := by kernel_rfl
theorem ce_post : Tryd.prog.cellsOf 40 = 10 := by kernel_rfl
def z_post : List Nat := [4607182418800017408, 5085611494797045271, 5564284217833028085, 6043257259031049059, 6521906365687930162, 7000496887210966211, 7479368607221621995, 7958223736346011545, 8436737289693151036, 8915514139102383430]
theorem ce34 : Tryd.prog.cellsOf 34 = 1 := by kernel_rfl
theorem met_plain (W : World) (h : laidMetH Tryd.prog Rows.fnAmountTextRow.laid W) : laidMet Tryd.prog Rows.fnAmountTextRow.laid W := by
  rw [MakeChecks.laidMetH_plain _ _ _ (by kernel_rfl)] at h
  exact h
theorem num_tab {W : World} (h : Lib.VarReads Tryd.prog W "internal/strconv.uint64pow10" Rows.laid_internal_strconv_uint64pow10) : Lib.TabIs Tryd.prog W "internal/strconv.uint64pow10" .u64 Lib.pow10Tab := by
  obtain ⟨g, t, cs, fuel, q, h1, h2, h3, h4⟩ := h
  obtain rfl := Option.some.inj (g_num.symm.trans h1)
  obtain rfl := Option.some.inj (t_num.symm.trans h2)
  unfold Lib.TabIs
  rw [h3, ← Lib.cells_of_tab (zs := Lib.pow10Tab) Tryd.underlying71 Tryd.underlying45 Aft.c45 ce_num h4]
theorem pow_tab {W : World} (h : Lib.VarReads Tryd.prog W "math.pow10tab" Rows.laid_math_pow10tab) : Ftab.Is Tryd.prog W "math.pow10tab" .f64 z_pow10tab := by
  obtain ⟨g, t, cs, fuel, q, h1, h2, h3, h4⟩ := h
  obtain rfl := Option.some.inj (g_pow10tab.symm.trans h1)
  obtain rfl := Option.some.inj (t_pow10tab.symm.trans h2)
  unfold Ftab.Is
  rw [h3, ← Ftab.cells_of (zs := z_pow10tab) Tryd.underlying42 Tryd.underlying34 ce34 ce_pow10tab h4]
theorem post_tab {W : World} (h : Lib.VarReads Tryd.prog W "math.pow10postab32" Rows.laid_math_pow10postab32) : Ftab.Is Tryd.prog W "math.pow10postab32" .f64 z_post := by
  obtain ⟨g, t, cs, fuel, q, h1, h2, h3, h4⟩ := h
  obtain rfl := Option.some.inj (g_post.symm.trans h1)
  obtain rfl := Option.some.inj (t_post.symm.trans h2)
  unfold Ftab.Is
  rw [h3, ← Ftab.cells_of (zs := z_post) Tryd.underlying40 Tryd.underlying34 ce34 ce_post h4]
theorem env {W : World} (h : laidMet Tryd.prog Rows.fnAmountTextRow.laid W) : Env W := by
  have hp : Lib.VarReads Tryd.prog W "internal/strconv.pow10Tab" Rows.laid_internal_strconv_pow10Tab := Lib.laidMet.reads h (.tail _ (.tail _ (.tail _ (.tail _ (.tail _ (.tail _ (.tail _ (.tail _ (.head _)))))))))
  have ho : Lib.VarReads Tryd.prog W "internal/strconv.optimize" Rows.laid_internal_strconv_optimize := Lib.laidMet.reads h (.tail _ (.tail _ (.head _)))
  have hn : Lib.VarReads Tryd.prog W "internal/strconv.uint64pow10" Rows.laid_internal_strconv_uint64pow10 := Lib.laidMet.reads h (.tail _ (.tail _ (.tail _ (.head _))))
  exact ⟨⟨World.block_lt_of_cell? W _ (pow_cells hp 0 (by decide)).1, fun p h => (pow_cells hp p h).1, fun p h => (pow_cells hp p h).2⟩, num_tab hn, opt_cell ho⟩
set_option maxRecDepth 100000 in
theorem walk (a u : Int) (W : World) (hL : laidMetH Tryd.prog Rows.fnAmountTextRow.laid W) : Calls Tryd.prog 3 #[.int .i64 a, .int .i64 u] W fun e w' => e = .returned (.bool true) ∧ Below W.heap.size W w' := by
  have hM := met_plain W hL
  have hE := env hM
  have c0 : W.cell? ⟨1, 0, none⟩ = some (.float .f64 4607182418800017408) := (post_tab (Lib.laidMet.reads hM (.tail _ (.tail _ (.tail _ (.tail _ (.tail _ (.head _)))))))).cell g_post 0 (by decide)
  have hT := pow_tab (Lib.laidMet.reads hM (.tail _ (.tail _ (.tail _ (.tail _ (.head _))))))
  by_cases h0 : a < -1000000000000000 ∨ 1000000000000000 < a
  · exact Aft.law_out a u W h0
  by_cases e_p6 : u = 6
  · subst e_p6
    have c1 : W.cell? ⟨2, 14, none⟩ = some (.float .f64 4816244402031689728) := hT.cell g_pow10tab 14 (by decide)
    exact Aft.law_p6 a (by omega) (by omega) W hE c0 c1
  by_cases e_p3 : u = 3
  · subst e_p3
    have c1 : W.cell? ⟨2, 11, none⟩ = some (.float .f64 4771362005757984768) := hT.cell g_pow10tab 11 (by decide)
    exact Aft.law_p3 a (by omega) (by omega) W hE c0 c1
  by_cases e_p0 : u = 0
  · subst e_p0
    have c1 : W.cell? ⟨2, 8, none⟩ = some (.float .f64 4726483295884279808) := hT.cell g_pow10tab 8 (by decide)
    exact Aft.law_p0 a (by omega) (by omega) W hE c0 c1
  by_cases e_m3 : u = -3
  · subst e_m3
    have c1 : W.cell? ⟨2, 5, none⟩ = some (.float .f64 4681608360884174848) := hT.cell g_pow10tab 5 (by decide)
    exact Aft.law_m3 a (by omega) (by omega) W hE c0 c1
  by_cases e_m6 : u = -6
  · subst e_m6
    have c1 : W.cell? ⟨2, 2, none⟩ = some (.float .f64 4636737291354636288) := hT.cell g_pow10tab 2 (by decide)
    exact Aft.law_m6 a (by omega) (by omega) W hE c0 c1
  by_cases e_m8 : u = -8
  · subst e_m8
    have c1 : W.cell? ⟨2, 0, none⟩ = some (.float .f64 4607182418800017408) := hT.cell g_pow10tab 0 (by decide)
    exact Aft.law_m8 a (by omega) (by omega) W hE c0 c1
  exact Aft.law_unit a u W (by omega) (by omega) (beq_eq_false_iff_ne.2 e_p6) (beq_eq_false_iff_ne.2 e_p3) (beq_eq_false_iff_ne.2 e_p0) (beq_eq_false_iff_ne.2 e_m3) (beq_eq_false_iff_ne.2 e_m6) (beq_eq_false_iff_ne.2 e_m8)
set_option maxRecDepth 100000 in
theorem lifted (os : Os) (started : os.Started) (H : Type) (enc : TypeId × Value → H) :
    ReturnsInHanded {} Tryd.checked os 3 .any (fun w args => (Rows.fnAmountTextSpec.pre enc Tryd.prog Tryd.f3 [] false w args ∧ laidMetH Tryd.prog Rows.fnAmountTextRow.laid w) ∧ sizedMet enc Tryd.prog Tryd.f3 (OpenSpec.ofChange Rows.fnAmountTextSpec) false w args)
      (Rows.fnAmountTextSpec.post enc Tryd.prog Tryd.f3 false true false false) := by
  refine returnsInHanded_of_change_and (C := Tryd.checked) (X := fun w _ => laidMetH Tryd.prog Rows.fnAmountTextRow.laid w) (fun _ _ _ hh h => h.of_heap hh) own started (by kernel_rfl) Tryd.func3
    (ChangeSpec.witness_shaped (enc := enc) (C := Tryd.checked) (os := os) (X := fun w _ => laidMetH Tryd.prog Rows.fnAmountTextRow.laid w) false (World.laidAll Tryd.prog os Rows.fnAmountTextRow.laid) #[.int .i64 0, .int .i64 0] 8 (World.laidAll_os _ _ _)
      (World.shaped_of_ZipB (by kernel_rfl) (by kernel_rfl)) (by kernel_rfl) (by kernel_rfl) (by kernel_rfl)
      (by rw [MakeChecks.laidMetH_plain _ _ _ (by kernel_rfl)]; exact laidMet_laidAll _ (by kernel_rfl) (by kernel_rfl))) ?_
  intro W base args ds gs before hval0 hW _ _ hL _
  have hval : ∀ (j : Nat) t v, Tryd.f3.params[j]? = some t → args[j]? = some v → Value.okWide Tryd.prog W .any base t v := hval0
  have hW' := hW
  obtain ⟨p, q, hA0, hV, rfl, hfz, hnd⟩ := hW
  have hA : DataW.TrodAll enc Tryd.prog W 0 (fun _ => true) true Tryd.f3.params.toList args.toList ds p := hA0
  rw [Tryd.params3] at hA hval
  obtain ⟨v0, vs0, d0, ds0, p0, q0, hargs, rfl, rfl, h0, r0⟩ := trodAll_cons hA
  obtain ⟨v1, vs1, d1, ds1, p1, q1, rfl, rfl, rfl, h1, r1⟩ := trodAll_cons r0
  obtain ⟨rfl, rfl, rfl⟩ := trodAll_nil r1
  obtain rfl : args = #[v0, v1] := by cases args; simp_all
  obtain ⟨rfl, rfl⟩ := trodVars_none hV
  obtain ⟨a0, rfl, rfl, rfl, w0⟩ := open_int Tryd.underlying2 (hval 0 2 v0 rfl rfl) h0
  obtain ⟨a1, rfl, rfl, rfl, w1⟩ := open_int Tryd.underlying3 (hval 1 3 v1 rfl rfl) h1
  clear hA0
  simp only [List.append_nil] at hW'
  refine (walk a0 a1 W hL).mono fun e W' ⟨he, hb⟩ => ?_
  subst he
  exact ⟨_, rfl, _, _, _, [], [], [], hW', trodAll_mk1 (shut_bool Tryd.underlying4 _), trodAll_cons_mk (shut_int Tryd.underlying2 w0) (trodAll_cons_mk (shut_int Tryd.underlying3 w1) trodAll_mk0), rfl, hb.frame _, fun h => by cases h⟩
theorem said : Rows.FnAmountTextSaid :=
  OpenClaim.holds_of_wide 3 Tryd.f3 rfl rfl rfl rfl rfl rfl rfl ⟨rfl, rfl, rfl, rfl, rfl⟩ rfl rfl rfl rfl rfl (by kernel_rfl) Tryd.func3 (by kernel_rfl)
    (of_decide_eq_true (by kernel_rfl)) (by unfold Func.isWrapper; first | (rw [if_pos (by decide +kernel)]; kernel_rfl) | (rw [if_neg (by decide +kernel)]; exact ⟨rfl, rfl⟩))
    (fun os started H enc _ => lifted os started H enc)
theorem plain (f : FuncId) (fn : Func) (hf : Tryd.pinned.checked.prog.funcNamed "loop.example/pub-g03073/laws.FnAmountText" = some f) (hfn : Tryd.pinned.checked.prog.funcs[f]? = some fn) :
    false = Tryd.pinned.checked.prog.looks [] ∧ ∀ (j : Nat) t, fn.params[j]? = some t → Tryd.pinned.checked.prog.wantsStandIn t = false := by
  obtain rfl : f = 3 := Option.some.inj ((show Tryd.prog.funcNamed "loop.example/pub-g03073/laws.FnAmountText" = some 3 by kernel_rfl).symm.trans hf) |>.symm
  obtain rfl : fn = Tryd.f3 := (Option.some.inj (Tryd.func3.symm.trans hfn)).symm
  refine ⟨by kernel_rfl, fun j t ht => ?_⟩
  rw [Tryd.params3] at ht
  have hm : t = 2 ∨ t = 3 := by simpa using Array.mem_of_getElem? ht
  rcases hm with rfl | rfl
  · exact (show Tryd.prog.wantsStandIn 2 = false by kernel_rfl)
  · exact (show Tryd.prog.wantsStandIn 3 = false by kernel_rfl)

/-- The card. -/
theorem card : Rows.FnAmountTextCardSaid :=
  Claim7.holds_tied_plain_at .later [] _ _ _ _ said (fun _ h => by cases h) (by kernel_rfl) (fun _ h => by cases h) fnAmountText_row_tie rfl ⟨rfl, rfl⟩ (by kernel_rfl) rfl plain (by kernel_rfl)
#print axioms card
end Go.Proofs.YtkcbalikahmeiaaDoor.fnAmountText
