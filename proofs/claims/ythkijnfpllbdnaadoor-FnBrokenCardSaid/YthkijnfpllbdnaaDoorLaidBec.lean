/-
  The witness of the tied cards: a world in which the four listed variables read as their texts lay them.
-/
import Derived.Test.YthkijnfpllbdnaaDoorCaseWalk
import Derived.Test.YthkijnfpllbdnaaDoorPolyWalk
import Derived.Test.YthkijnfpllbdnaaDoorRows
import Derived.Lib.LaidIn
import Derived.Lib.LaidCaseMet
import Derived.PinnedBridge
import Derived.WalkKit
import Derived.ProofKit
import Derived.Deep.DeepHandedRow
import Derived.Stop.LaidErr
namespace Go.Proofs.YthkijnfpllbdnaaDoor.LaidBec
open Go.Shelf Go.Lib Go.Proofs.YthkijnfpllbdnaaDoor.Bec

theorem caseIn {P : Program} {ρ : Ren} (L : Lays.n274 P ρ) (t206 : P.underlying (ρ.t 206) = some (.array 3 (ρ.t 21))) (X : CaseExtra P ρ) {w : World} (R : Nat) (t : TypeId) (hgR : ρ.g 13 ≠ R)
    (hvar : w.heap[ρ.g 13]? = some (.cells #[.slice (some ⟨R, 0, none⟩) caseA.size caseA.size] (ρ.t 162) (0, 0)))
    (hblk : w.heap[R]? = some (.cells caseCells5 t (0, 0))) : LaidIn P w [("unicode.CaseRanges", caseData)] [ρ.g 13, R] := by
  have hT := caseTab_of_block hblk
  have hread := case_slice_reads L t206 X hT caseA_wf (by rw [caseA_size]; unfold maxLen; omega) 0
  rw [case_rows_data] at hread
  have hv : w.var? P "unicode.CaseRanges" = some #[.slice (some ⟨R, 0, none⟩) caseA.size caseA.size] := by simp [World.var?, X.n13, hvar]
  refine LaidIn.one [ρ.g 13, R] X.n13 X.y13 hv hread ?_ ?_ ?_
  · refine List.nodup_append.2 ⟨row_nodup _ _, row_nodup _ _, ?_⟩
    intro a ha b hb e
    obtain ⟨i, _, rfl⟩ := MemPlace.mem_row.1 ha
    obtain ⟨j, _, rfl⟩ := MemPlace.mem_row.1 hb
    simp at e
    exact hgR e.1
  · intro b off hp
    rcases List.mem_append.1 hp with hp | hp
    · obtain ⟨i, hi, e⟩ := MemPlace.mem_row.1 hp
      cases e
      refine ⟨⟨_, _, hvar⟩, fun u v hc => ?_⟩
      obtain rfl : i = 0 := by simp at hi; omega
      rw [Lib.cell_of_heap hvar] at hc
      simp at hc
    · obtain ⟨i, hi, e⟩ := MemPlace.mem_row.1 hp
      cases e
      refine ⟨⟨_, _, hblk⟩, fun u v hc => ?_⟩
      obtain ⟨c0, c1, c2, c3, c4⟩ := hT (i / 5) (by omega)
      have hi5 : 0 + i = 0 + i / 5 * 5 + i % 5 := by omega
      simp only at hc
      rw [hi5] at hc
      have hm : i % 5 < 5 := Nat.mod_lt _ (by omega)
      match hk : i % 5, hm with
      | 0, _ => rw [hk, Nat.add_zero, c0] at hc; cases hc
      | 1, _ => rw [hk, c1] at hc; cases hc
      | 2, _ => rw [hk, c2] at hc; cases hc
      | 3, _ => rw [hk, c3] at hc; cases hc
      | 4, _ => rw [hk, c4] at hc; cases hc
  · intro x hx
    rcases List.mem_append.1 hx with hp | hp
    · obtain ⟨i, _, rfl⟩ := MemPlace.mem_row.1 hp
      exact .head _
    · obtain ⟨i, _, rfl⟩ := MemPlace.mem_row.1 hp
      exact .tail _ (.head _)

noncomputable def laidWorld (os : Os) : World :=
  let N := (World.settled Tryd.prog os).heap.size
  let w0 := World.holding Tryd.prog os ⟨#[.cells caseCells5 (laysLower_ren.t 208)], #[], []⟩
  let put (h : Array Obj) (g : Nat) (cs : Array Value) : Array Obj := h.modify g fun
    | .cells _ t frozen => .cells cs t frozen
    | o => o
  let h1 := put w0.heap (laysLower_ren.g 3) (firstTab.map fun z => Value.int .u8 z).toArray
  let h2 := put h1 (laysLower_ren.g 4) ((List.range 16).flatMap fun i => [Value.int .u8 (accLo i), Value.int .u8 (accHi i)]).toArray
  let h3 := put h2 0 #[.int .i64 996825010, .int .i64 642813549, .int .i64 513874426, .int .i64 1027748829, .int .i64 705979059]
  let h4 := put h3 (laysLower_ren.g 13) #[.slice (some ⟨N, 0, none⟩) 336 336]
  { w0 with heap := h4 }
theorem laid_met (os : Os) (args : Array Value) : laidMet Tryd.prog Rows.fnUnBech32Row.laid ((laidWorld os).forCall (fun _ _ => 0) ⟨#[], args, []⟩).memory := by
  have h1 : LaidIn Tryd.prog ((laidWorld os).forCall (fun _ _ => 0) ⟨#[], args, []⟩).memory [("unicode/utf8.acceptRanges", Rows.laid_unicode_utf8_acceptRanges), ("loop.example/pub-g03073/pub/bech32.gen", Rows.laid_loop_example_pub_g03073_pub_bech32_gen)] [laysLower_ren.g 4, 0] :=
    LaidIn.of_run _ 10 (by kernel_rfl) (by kernel_rfl) (by kernel_rfl) (by kernel_rfl)
  have h2 : LaidIn Tryd.prog ((laidWorld os).forCall (fun _ _ => 0) ⟨#[], args, []⟩).memory [("unicode.CaseRanges", Rows.laid_unicode_CaseRanges)] [laysLower_ren.g 13, (World.settled Tryd.prog default).heap.size] := by
    rw [show Rows.laid_unicode_CaseRanges = caseData from Pinned.caseRanges_eq]
    exact caseIn (ρ := laysLower_ren) { laysLower with } laysLower.t206 ⟨by kernel_rfl, by kernel_rfl, by kernel_rfl, by kernel_rfl, by kernel_rfl, by kernel_rfl⟩ _ (laysLower_ren.t 208) (of_decide_eq_true (by kernel_rfl)) (by kernel_rfl) (by kernel_rfl)
  have h3 : LaidIn Tryd.prog ((laidWorld os).forCall (fun _ _ => 0) ⟨#[], args, []⟩).memory [("unicode/utf8.first", Rows.laid_unicode_utf8_first)] [laysLower_ren.g 3] :=
    LaidIn.of_run _ 10 (by kernel_rfl) (by kernel_rfl) (by kernel_rfl) (by kernel_rfl)
  exact (h1.append (h2.append h3 (by kernel_rfl)) (by kernel_rfl)).met

theorem gGen : Tryd.prog.globalNamed "loop.example/pub-g03073/pub/bech32.gen" = some 0 := by kernel_rfl
def genTab : List Int := [996825010, 642813549, 513874426, 1027748829, 705979059]
theorem gen_tab (i : Nat) (hi : i < 5) : genTab.getD i 0 = (gen i : Nat) := by
  match i, hi with
  | 0, _ => rfl
  | 1, _ => rfl
  | 2, _ => rfl
  | 3, _ => rfl
  | 4, _ => rfl
theorem gen_at {W : World} {l : List (String × DataW Unit)} (hL : laidMet Tryd.prog l W) (hm : ("loop.example/pub-g03073/pub/bech32.gen", Rows.laid_loop_example_pub_g03073_pub_bech32_gen) ∈ l)
    {tg : Nat} (hty : (Tryd.prog.globals[0]?).map (·.type) = some tg) (hu : Tryd.prog.underlying tg = some (.array 5 3)) (h3 : Tryd.prog.underlying 3 = some (.int .i64)) (c3 : Tryd.prog.cellsOf 3 = 1) (c5 : Tryd.prog.cellsOf tg = 5) : genAt W := by
  intro i hi
  obtain ⟨g, t, cs, fuel, p, hg, hty', hvar, hd⟩ := Lib.laidMet.reads hL hm
  obtain rfl := Option.some.inj (gGen.symm.trans hg)
  obtain rfl := Option.some.inj (hty.symm.trans hty')
  have hcs : cs.toList = genTab.map fun z => Value.int .i64 z := cells_of_tab (zs := genTab) hu h3 c3 c5 hd
  have := World.var?_cell hg hvar i
  rw [this, ← Array.getElem?_toList, hcs, ← gen_tab i hi]
  have hl : i < genTab.length := hi
  rw [List.getElem?_map, List.getD_eq_getElem?_getD, List.getElem?_eq_getElem hl]
  rfl
end Go.Proofs.YthkijnfpllbdnaaDoor.LaidBec
