/-
  What the listed tables hold, as the walk reads them.
-/
import Derived.Test.YtkcbalikahmeiaaDoorUnitWalk
import Derived.Test.YtkcbalikahmeiaaDoorFtab
import Derived.Lib.LaidU8
import Derived.MakeChecks
namespace Go.Proofs.YtkcbalikahmeiaaDoor.Aft
open Go.RowKit

theorem n_pow : Tryd.prog.globalNamed "internal/strconv.pow10Tab" = some 6 := by kernel_rfl
theorem t_pow : (Tryd.prog.globals[6]?).map (·.type) = some 93 := by kernel_rfl
theorem c92 : Tryd.prog.cellsOf 92 = 2 := by kernel_rfl
theorem c45 : Tryd.prog.cellsOf 45 = 1 := by kernel_rfl
theorem fields92 : ∀ fs, Tryd.prog.underlying 92 = some (.struct fs) → fs.size = 2 ∧ ∀ (i : Nat) (f : Field), fs[i]? = some f → Tryd.prog.underlying f.type = some (.int .u64) ∧ f.offset = i ∧ Tryd.prog.cellsOf f.type = 1 := by
  intro fs h
  rw [Tryd.underlying92] at h
  obtain rfl := TypeDesc.struct.inj (Option.some.inj h)
  refine ⟨rfl, fun i f hf => ?_⟩
  match i, hf with
  | 0, hf => obtain rfl := Option.some.inj hf; exact ⟨Tryd.underlying45, rfl, c45⟩
  | 1, hf => obtain rfl := Option.some.inj hf; exact ⟨Tryd.underlying45, rfl, c45⟩
  | i + 2, hf => simp at hf
theorem rows_at (p : Nat) (h : p ≤ 30) : Go.Pinned.pow10Rows[p + 348]? = some (hiT p, loT p) := by
  have H : ∀ m : Fin 31, Go.Pinned.pow10Rows[m.val + 348]? = some (hiT m.val, loT m.val) := by decide +kernel
  exact H ⟨p, by omega⟩
theorem pow_cells {W : World} (h : Lib.VarReads Tryd.prog W "internal/strconv.pow10Tab" Go.Pinned.pow10Tab) (p : Nat) (hp : p ≤ 30) :
    W.cell? ⟨6, (p + 348) * 2, none⟩ = some (.int .u64 (hiT p : Nat)) ∧ W.cell? ⟨6, (p + 348) * 2 + 1, none⟩ = some (.int .u64 (loT p : Nat)) := by
  obtain ⟨g, t, cs, fuel, q, h1, h2, h3, h4⟩ := h
  obtain rfl := Option.some.inj (n_pow.symm.trans h1)
  obtain rfl := Option.some.inj (t_pow.symm.trans h2)
  obtain ⟨f', d, q', hd, ht⟩ := Lib.array_elem (ds := Go.Pinned.pow10Rows.map fun x => .agg [.lit (.int .u64 x.1), .lit (.int .u64 x.2)]) Tryd.underlying93 h4 (p + 348) (by omega)
  rw [List.getElem?_map, rows_at p hp] at hd
  obtain rfl := (Option.some.inj hd).symm
  rw [c92] at ht
  obtain ⟨fs, hfs⟩ : ∃ fs, Tryd.prog.underlying 92 = some (.struct fs) := ⟨_, Tryd.underlying92⟩
  obtain ⟨f1, f2⟩ := fields92 fs hfs
  have hc := Lib.ints_of_struct (zs := [(hiT p : Int), (loT p : Int)]) hfs f2 (by rw [c92, f1]) ht
  have a0 := congrArg (·[0]?) hc
  have a1 := congrArg (·[1]?) hc
  simp only [List.getElem?_take, List.getElem?_drop] at a0 a1
  rw [if_pos (by decide)] at a0 a1
  rw [Nat.add_zero] at a0
  constructor
  · rw [World.var?_cell h1 h3, ← Array.getElem?_toList]
    exact a0
  · rw [World.var?_cell h1 h3, ← Array.getElem?_toList]
    exact a1
theorem n_opt : Tryd.prog.globalNamed "internal/strconv.optimize" = some 4 := by kernel_rfl
theorem t_opt : (Tryd.prog.globals[4]?).map (·.type) = some 4 := by kernel_rfl
theorem opt_cell {W : World} (h : Lib.VarReads Tryd.prog W "internal/strconv.optimize" (.lit (.bool true))) : W.cell? ⟨4, 0, none⟩ = some (.bool true) := by
  obtain ⟨g, t, cs, fuel, q, h1, h2, h3, h4⟩ := h
  obtain rfl := Option.some.inj (n_opt.symm.trans h1)
  obtain rfl := Option.some.inj (t_opt.symm.trans h2)
  obtain ⟨b, hb, hx⟩ := DataW.trod_bool Tryd.underlying4 h4
  rw [World.var?_cell h1 h3, ← Array.getElem?_toList, hb]
  cases hx
  rfl
end Go.Proofs.YtkcbalikahmeiaaDoor.Aft
