/-
  setDigits: the digits of a number written into a buffer, the zeros at their end counted off.
-/
import Derived.Test.YtkcbalikahmeiaaDoorLayAft
import Derived.Test.YtkcbalikahmeiaaDoorPFnAmountTextx0
import Derived.Test.YtkcbalikahmeiaaDoorHand
import Derived.WalkKit
namespace Go.Proofs.YtkcbalikahmeiaaDoor.Aft
open Go.RowKit Go.Shelf Go.Lib Go.Sort Go.Proofs Go.Proofs.YtkcbalikahmeiaaDoor.Hand Go.Proofs.YtkcbalikahmeiaaDoorW.PrintWords Go.Proofs.YtkcbalikahmeiaaDoorW.PrintLast Go.Proofs.YtkcbalikahmeiaaDoorW.PrintMore

/-- The digits' letters. -/
def dig (u : Nat) : List Int := (decDigits u).map fun b => (b.toNat : Int)
theorem dig_length (u : Nat) : (dig u).length = nDigits u := by unfold dig; rw [List.length_map, decDigits_length]
/-- A buffer's cells. -/
def bufC (l : List Int) : Array Value := (l.map (Value.int .u8)).toArray
theorem bufC_at (l : List Int) (i : Nat) (h : i < l.length) : (bufC l)[i]? = some (.int .u8 (l.getD i 0)) := by
  unfold bufC
  rw [List.getElem?_toArray, List.getElem?_map, List.getElem?_eq_getElem h, List.getD_eq_getElem?_getD, List.getElem?_eq_getElem h]
  rfl
/-- How many letters are left without the zeros at the end. -/
def sl (l : List Int) : Nat → Nat
  | 0 => 0
  | k + 1 => if l.getD k 0 = 48 then sl l k else k + 1
theorem put_buf (u L v' : Nat) (dk : Array UInt8) (h : FmtInv (nDigits u) u 0 v' dk) (hL : nDigits u ≤ L) :
    putCells (fun (b : UInt8) => Value.int .u8 (b.toNat : Int)) 0 dk (bufC (List.replicate L 0)) = bufC (dig u ++ List.replicate (L - nDigits u) 0) := by
  have hs := h.size
  apply Array.ext_getElem?
  intro k
  unfold putCells
  rw [Array.getElem?_mapIdx]
  by_cases hk : k < L
  · rw [bufC_at _ k (by rw [List.length_replicate]; exact hk), bufC_at _ k (by rw [List.length_append, dig_length, List.length_replicate]; omega)]
    simp only [Option.map_some]
    by_cases hd : k < nDigits u
    · rw [if_pos ⟨Nat.zero_le _, by omega⟩]
      have hd' : k < (decDigits u).length := by rw [decDigits_length]; exact hd
      have e := row_is_numeral h k hd'
      rw [Nat.sub_zero, ← e, List.getD_eq_getElem?_getD, List.getElem?_append_left (by rw [dig_length]; exact hd)]
      unfold dig
      rw [List.getElem?_map, List.getElem?_eq_getElem hd']
      rfl
    · rw [if_neg (by omega), List.getD_eq_getElem?_getD, List.getD_eq_getElem?_getD, List.getElem?_append_right (by rw [dig_length]; omega), dig_length, List.getElem?_replicate, List.getElem?_replicate, if_pos hk, if_pos (by omega)]
  · have e1 : (bufC (List.replicate L 0))[k]? = none := by unfold bufC; rw [List.getElem?_toArray, List.getElem?_eq_none (by simp; omega)]
    have e2 : (bufC (dig u ++ List.replicate (L - nDigits u) 0))[k]? = none := by unfold bufC; rw [List.getElem?_toArray, List.getElem?_eq_none (by simp [dig_length]; omega)]
    rw [e1, e2]
    rfl
theorem heap_put (w : World) (g n : Nat) (cs : Array Value) (T : TypeId) (dk : Array UInt8) (h : w.heap[g]? = some (.cells cs T (0, 0))) :
    ((putRow (fun (b : UInt8) => Value.int .u8 (b.toNat : Int)) w g 0 dk).drewN n).heap[g]? = some (.cells (putCells (fun (b : UInt8) => Value.int .u8 (b.toNat : Int)) 0 dk cs) T (0, 0)) := by
  show (putRow (fun (b : UInt8) => Value.int .u8 (b.toNat : Int)) w g 0 dk).heap[g]? = _
  unfold putRow mapBlock
  simp [Array.getElem?_modify, h, onCells]
theorem below_put (w : World) (g n : Nat) (dk : Array UInt8) : Below g w ((putRow (fun (b : UInt8) => Value.int .u8 (b.toNat : Int)) w g 0 dk).drewN n) := by
  have h : Below g w (putRow (fun (b : UInt8) => Value.int .u8 (b.toNat : Int)) w g 0 dk) := ⟨rfl, rfl, rfl, by unfold putRow mapBlock; simp, fun i hi => by
    unfold putRow mapBlock
    simp [Array.getElem?_modify, Nat.ne_of_gt hi]⟩
  exact ⟨h.os, h.tape, h.output, h.size, fun i hi => h.block i hi⟩
theorem b10_calls (g L u : Nat) (T : TypeId) (w : World) (h1 : 1 ≤ u) (hu : u < 18446744073709551616) (hL : nDigits u ≤ L) (hb : w.heap[g]? = some (.cells (bufC (List.replicate L 0)) T (0, 0))) :
    Calls Tryd.prog 21 #[.slice (some ⟨g, 0, none⟩) (nDigits u) L, .int .u64 (u : Int)] w fun e w' => e = .returned (.tuple #[]) ∧ w'.heap[g]? = some (.cells (bufC (dig u ++ List.replicate (L - nDigits u) 0)) T (0, 0)) ∧ Below g w w' := by
  have h := Any.internal_strconv_formatBase10 laysB10 g 0 L u (Array.replicate (nDigits u) 0) w (fun j hj => by
    rw [Array.size_replicate] at hj
    refine ⟨?_, blk_frozen hb _⟩
    rw [blk_cell hb, Nat.zero_add, bufC_at _ j (by rw [List.length_replicate]; omega), getElem!_pos _ j (by rw [Array.size_replicate]; exact hj), Array.getElem_replicate, List.getD_eq_getElem?_getD, List.getElem?_replicate, if_pos (by omega)]
    rfl) (by rw [Array.size_replicate]; exact lt_pow_nDigits u) hu (by
      rw [Array.size_replicate]
      have := numDigits_eq u h1 hu
      split at this <;> omega)
  rw [Array.size_replicate] at h
  refine h.mono ?_
  rintro e w' ⟨rfl, n, v', dk, rfl, hF⟩
  refine ⟨rfl, ?_, below_put w g n dk⟩
  rw [heap_put w g n _ T dk hb, put_buf u L v' dk hF hL]
set_option maxHeartbeats 4000000 in
theorem set_calls (g L u : Nat) (p : Int) (T : TypeId) (w : World) (h1 : 1 ≤ u) (hu : u < 18446744073709551616) (hL : nDigits u ≤ L) (hL2 : L ≤ 100) (hp0 : -100 ≤ p) (hp1 : p ≤ 100) (hb : w.heap[g]? = some (.cells (bufC (List.replicate L 0)) T (0, 0))) :
    Calls Tryd.prog 30 #[.slice (some ⟨g, 0, none⟩) L L, .int .u64 (u : Int), .int .i64 p, .int .i64 (nDigits u : Nat)] w fun e w' =>
      e = .returned (.tuple #[.int .i64 ((nDigits u : Nat) + p), .int .i64 ((sl (dig u ++ List.replicate (L - nDigits u) 0) (nDigits u) : Nat) : Int)]) ∧ w'.heap[g]? = some (.cells (bufC (dig u ++ List.replicate (L - nDigits u) 0)) T (0, 0)) ∧ Below g w w' := by
  obtain ⟨nd, hnd⟩ : ∃ nd, nd = nDigits u := ⟨_, rfl⟩
  have HF := Aside0.mk (b10_calls g L u T w h1 hu hL hb)
  obtain ⟨l, hl⟩ : ∃ l, l = dig u ++ List.replicate (L - nDigits u) 0 := ⟨_, rfl⟩
  have hll : l.length = L := by rw [hl, List.length_append, dig_length, List.length_replicate]; omega
  rw [← hl, ← hnd] at HF ⊢
  rw [← hnd] at hL
  have hc1 : (nd : Int) ≤ (L : Int) := by omega
  have HLL := Aside0.mk hll
  clear hb hnd hl hll h1 hu
  go_enter Tryd.func30, Tryd.ntmps30
  go_wp2_with (first
    | (go_at_call 21; (with_reducible refine HF.out.mono ?_); rintro e1 w1 ⟨rfl, hb1, hB1⟩; have HB := Aside0.mk hb1; have HW := Aside0.mk hB1; clear hb1 hB1)
    | fail)
  clear HF
  go_loopw [3] (fun v3 wr => ∃ k : Nat, v3 = .int .i64 k ∧ k ≤ nd ∧ Aside0 (sl l k = sl l nd) ∧ Aside0 (wr.heap[g]? = some (.cells (bufC l) T (0, 0)) ∧ Below g w wr)) (fun v3 _ => (RowKit.intOf v3).toNat)
  case atStart => exact ⟨nd, rfl, Nat.le_refl _, ⟨rfl⟩, ⟨HB.out, HW.out⟩⟩
  case round =>
    obtain ⟨k, rfl, hk, HS, HX⟩ := hrel
    clear HB HW
    match k, hk, HS with
    | 0, hk, HS =>
      go_wp2_with fail
      refine bodyPost_ret (results_tmp2 rfl _ _ _) rfl ⟨?_, HX.out⟩
      have := HS.out
      rw [← this]
      rfl
    | k + 1, hk, HS =>
      have hlt : k < l.length := by rw [HLL.out]; omega
      have kc : wr.cell? ⟨g, k, none⟩ = some (.int .u8 (l.getD k 0)) := by rw [blk_cell HX.out.1]; exact bufC_at l k hlt
      have hkL : (k : Int) < (L : Int) := by omega
      have hs := HS.out
      by_cases h48 : l.getD k 0 = 48
      · rw [sl, if_pos h48] at hs
        have HS' := Aside0.mk hs
        rw [h48] at kc
        clear hs HS h48
        go_wp2_with fail
        go_roundw
        case rel => exact ⟨k, by go_num, by omega, HS', HX⟩
        case measure => first | (simp [RowKit.intOf]; done) | (simp [RowKit.intOf]; omega)
      · rw [sl, if_neg h48] at hs
        have HS' := Aside0.mk hs
        generalize l.getD k 0 = y at kc h48
        clear hs HS
        go_wp2_with fail
        refine bodyPost_ret (results_tmp2 rfl _ _ _) rfl ⟨?_, HX.out⟩
        rw [← HS'.out]
        rfl
end Go.Proofs.YtkcbalikahmeiaaDoor.Aft
