/-
  Arrays of bytes, inputs: compared.
-/
import Derived.Test.YtpggphjnghhmeaaLessO
import Derived.ChangeKeysEq
namespace Go.Proofs.Ytpggphjnghhmeaa.Srt
open Go.RowKit Go.Proofs.Ytpggphjnghhmeaa.Hand Go.Proofs.Ytpggphjnghhmeaa.PFnSorted Go.Proofs.YtpggphjnghhmeaaW.PrintWords Go.Proofs.YtpggphjnghhmeaaW.PrintLast Go.Proofs.YtpggphjnghhmeaaW.PrintMore

/-- Bytes as cells. -/
def by8 (hs : List Int) : List Value := hs.map (Value.int .u8)
theorem by8_one (hs : List Int) : ∀ v ∈ by8 hs, v.oneCell' = true := fun v hv => by
  obtain ⟨z, _, rfl⟩ := List.mem_map.1 hv; rfl
theorem by8_get {hs : List Int} {i : Nat} (h : i < hs.length) : (by8 hs).toArray[i]? = some (.int .u8 (hs.getD i 0)) := by
  rw [List.getElem?_toArray]; exact getD_get h
theorem plain5 : Try.prog.plainKey 5 = true := by kernel_rfl
theorem cells5 : Try.prog.cellsOf 5 = 1 := by kernel_rfl
theorem items_eq (d : Nat) (hs ks : List Int) (hl : hs.length = 32) (kl : ks.length = 32) (W : World) : ∀ is : List Nat, (∀ i ∈ is, i < 32) →
    (Op.eqItems (d + 1) 5 1 (by8 hs).toArray (by8 ks).toArray is).run Try.prog W = .ok (is.all fun i => hs.getD i 0 == ks.getD i 0) W
  | [], _ => by simp [Op.eqItems]
  | i :: is, h => by
    have hi := h i (List.mem_cons_self)
    have p1 := run_part_plain (P := Try.prog) (w := W) plain5 (by8_get (hs := hs) (i := i) (by omega))
    have p2 := run_part_plain (P := Try.prog) (w := W) plain5 (by8_get (hs := ks) (i := i) (by omega))
    have p3 := run_equalIn_int (P := Try.prog) W d 5 .u8 .u8 (hs.getD i 0) (ks.getD i 0) Try.underlying5
    have ih := items_eq d hs ks hl kl W is (fun j hj => h j (List.mem_cons_of_mem _ hj))
    simp only [Op.eqItems, Sem.run_bind, Nat.mul_one, p1, p2, p3, Result.andThen_ok, List.all_cons]
    cases he : (hs.getD i 0 == ks.getD i 0)
    · simp
    · simpa using ih
theorem all_eq (hs ks : List Int) (hl : hs.length = 32) (kl : ks.length = 32) : ((List.range 32).all fun i => hs.getD i 0 == ks.getD i 0) = decide (hs = ks) := by
  by_cases e : hs = ks
  · subst e; simp
  · rw [decide_eq_false e]
    rw [List.all_eq_false]
    refine Classical.byContradiction fun h => e ?_
    apply List.ext_getElem (by omega)
    intro i h1 h2
    refine Classical.byContradiction fun hne => h ⟨i, List.mem_range.2 (by omega), ?_⟩
    rw [List.getD_eq_getElem?_getD, List.getD_eq_getElem?_getD, List.getElem?_eq_getElem h1, List.getElem?_eq_getElem h2]
    simpa using hne
theorem eq37 (hs ks : List Int) (hl : hs.length = 32) (kl : ks.length = 32) (d : Nat) (W : World) : (Op.equalIn (d + 2) 37 (.agg (by8 hs).toArray) (.agg (by8 ks).toArray)).run Try.prog W = .ok (decide (hs = ks)) W := by
  obtain ⟨i, hi⟩ : ∃ i, Try.prog.info? 5 = some i := Option.isSome_iff_exists.1 (by kernel_rfl)
  rw [run_equalIn_array W (d + 1) (by8 hs).toArray (by8 ks).toArray Try.underlying37 hi, cells5, items_eq d hs ks hl kl W _ (fun i hi => List.mem_range.1 hi), all_eq hs ks hl kl]
/-- The ends exchanged, as far as k. -/
def revK (k : Nat) (hs : List Int) : List Int := (List.range 32).map fun p => if p < k ∨ 32 - k ≤ p then hs.getD (31 - p) 0 else hs.getD p 0
theorem revK_length (k : Nat) (hs : List Int) : (revK k hs).length = 32 := by unfold revK; simp
theorem revK_get (k : Nat) (hs : List Int) (p : Nat) (hp : p < 32) : (revK k hs).getD p 0 = if p < k ∨ 32 - k ≤ p then hs.getD (31 - p) 0 else hs.getD p 0 := by
  unfold revK
  rw [List.getD_eq_getElem?_getD, List.getElem?_map, List.getElem?_range hp]
  rfl
theorem ext32 {a b : List Int} (ha : a.length = 32) (hb : b.length = 32) (h : ∀ p, p < 32 → a.getD p 0 = b.getD p 0) : a = b := by
  apply List.ext_getElem (by omega)
  intro i h1 h2
  have := h i (by omega)
  rw [List.getD_eq_getElem?_getD, List.getD_eq_getElem?_getD, List.getElem?_eq_getElem h1, List.getElem?_eq_getElem h2] at this
  simpa using this
theorem revK_zero {hs : List Int} (hl : hs.length = 32) : revK 0 hs = hs := ext32 (revK_length _ _) hl fun p hp => by rw [revK_get _ _ _ hp, if_neg (by omega)]
theorem revK_16 {hs : List Int} (hl : hs.length = 32) : revK 16 hs = hs.reverse := ext32 (revK_length _ _) (by simp [hl]) fun p hp => by
  rw [revK_get _ _ _ hp, if_pos (by omega)]
  rw [List.getD_eq_getElem?_getD, List.getD_eq_getElem?_getD, List.getElem?_reverse (by omega), hl]
theorem revK_step (k : Nat) (hk : k < 16) (hs : List Int) : ((revK k hs).set k ((revK k hs).getD (31 - k) 0)).set (31 - k) ((revK k hs).getD k 0) = revK (k + 1) hs := ext32 (by simp [revK_length]) (revK_length _ _) fun p hp => by
  rw [revK_get _ _ _ hp, revK_get _ _ _ (by omega), revK_get _ _ _ (by omega)]
  simp only [List.getD_eq_getElem?_getD, List.getElem?_set, List.length_set, revK_length]
  by_cases c1 : 31 - k = p
  · rw [if_pos c1, if_pos (by omega), if_neg (by omega), if_pos (by omega)]
    subst c1
    rw [show 31 - (31 - k) = k by omega]; rfl
  · rw [if_neg c1]
    by_cases c2 : k = p
    · subst c2
      rw [if_pos rfl, if_pos (by omega), if_neg (by omega), if_pos (by omega)]; rfl
    · rw [if_neg c2]
      have := revK_get k hs p hp
      rw [List.getD_eq_getElem?_getD] at this
      rw [this]
      by_cases c3 : p < k ∨ 32 - k ≤ p
      · rw [if_pos c3, if_pos (by omega)]; rfl
      · rw [if_neg c3, if_neg (by omega)]; rfl
/-- The same, in the block. -/
theorem revK_cells (k : Nat) (hk : k < 16) (hs : List Int) : ((by8 (revK k hs)).toArray.setIfInBounds k (.int .u8 ((revK k hs).getD (31 - k) 0))).setIfInBounds (31 - k) (.int .u8 ((revK k hs).getD k 0)) = (by8 (revK (k + 1) hs)).toArray := by
  rw [List.setIfInBounds_toArray, List.setIfInBounds_toArray, ← revK_step k hk hs]
  unfold by8
  rw [List.map_set, List.map_set]
end Go.Proofs.Ytpggphjnghhmeaa.Srt
