/-
  spec.expanded in plain words.
-/
import Derived.Test.YthkijnfpllbdnaaDoorUnbWalk
import Derived.Test.YthkijnfpllbdnaaDoorPFnBech32x2
namespace Go.Proofs.YthkijnfpllbdnaaDoor.Bec
open Go.RowKit Go.Proofs.YthkijnfpllbdnaaDoor.Hand Go.Proofs.YthkijnfpllbdnaaDoorW.PrintWords Go.Proofs.YthkijnfpllbdnaaDoorW.PrintLast Go.Proofs.YthkijnfpllbdnaaDoorW.PrintMore

theorem w64s {x : Int} (h1 : -9223372036854775808 ≤ x) (h2 : x ≤ 9223372036854775807) : wrap64 x = x := by unfold wrap64; omega
theorem drop_next (s : ByteArray) (i : Nat) (h : i < s.size) : (bytesOf s).drop i = bt s (i : Int) :: (bytesOf s).drop (i + 1) := by
  have hl := bytesOf_length s
  rw [bt_getD, List.drop_eq_getElem_cons (by omega), List.getD_eq_getElem?_getD, List.getElem?_eq_getElem (by omega)]
  rfl
theorem exp_l1 (s : ByteArray) (hs : s.size ≤ 1000000) : ∀ (n i : Nat) (acc : List Int), s.size - i = n → i ≤ s.size → acc.length ≤ 2000001 + i → Ev (fun k => PFnBech32.spec_expanded.l1 k s acc (i : Int)) (acc ++ ((bytesOf s).drop i).map (· % 32)) := by
  intro n
  induction n with
  | zero =>
    intro i acc hn hi hl
    have hd : (bytesOf s).drop i = [] := List.drop_eq_nil_of_le (by rw [bytesOf_length]; omega)
    rw [hd]
    refine Ev.step (f := fun _ => some _) (fun k => ?_) (Ev.now _)
    simp only [PFnBech32.spec_expanded.l1]
    rw [if_neg (by omega)]
    simp
  | succ n ih =>
    intro i acc hn hi hl
    have hlt : i < s.size := by omega
    have hb := bt_range s (i : Int)
    have h31 := u8_and31 (bt s (i : Int)) hb.1 (by omega)
    have h := ih (i + 1) (acc ++ [bt s (i : Int) % 32]) (by omega) (by omega) (by simp; omega)
    rw [drop_next s i hlt, List.map_cons, show acc ++ (bt s (i : Int) % 32 :: ((bytesOf s).drop (i + 1)).map (· % 32)) = acc ++ [bt s (i : Int) % 32] ++ ((bytesOf s).drop (i + 1)).map (· % 32) by simp]
    refine Ev.step (fun k => ?_) h
    simp only [PFnBech32.spec_expanded.l1]
    rw [if_pos (by omega), if_pos (by omega), if_pos (by omega), h31, w64s (by omega) (by omega)]
    rfl
theorem exp_l0 (s : ByteArray) (hs : s.size ≤ 1000000) : ∀ (n i : Nat) (acc : List Int), s.size - i = n → i ≤ s.size → acc.length = i → Ev (fun k => PFnBech32.spec_expanded.l0 k s acc (i : Int)) (acc ++ ((bytesOf s).drop i).map (· / 32) ++ 0 :: (bytesOf s).map (· % 32)) := by
  intro n
  induction n with
  | zero =>
    intro i acc hn hi hl
    have hd : (bytesOf s).drop i = [] := List.drop_eq_nil_of_le (by rw [bytesOf_length]; omega)
    have h := exp_l1 s hs s.size 0 (acc ++ [0]) rfl (by omega) (by simp; omega)
    rw [List.drop_zero] at h
    rw [hd, List.map_nil, List.append_nil, show acc ++ (0 :: (bytesOf s).map (· % 32)) = acc ++ [0] ++ (bytesOf s).map (· % 32) by simp]
    refine Ev.step (fun k => ?_) h
    simp only [PFnBech32.spec_expanded.l0]
    rw [if_neg (by omega), if_pos (by omega)]
    rfl
  | succ n ih =>
    intro i acc hn hi hl
    have hlt : i < s.size := by omega
    have h := ih (i + 1) (acc ++ [bt s (i : Int) / 32]) (by omega) (by omega) (by simp; omega)
    rw [drop_next s i hlt, List.map_cons, show acc ++ (bt s (i : Int) / 32 :: ((bytesOf s).drop (i + 1)).map (· / 32)) = acc ++ [bt s (i : Int) / 32] ++ ((bytesOf s).drop (i + 1)).map (· / 32) by simp]
    refine Ev.step (fun k => ?_) h
    simp only [PFnBech32.spec_expanded.l0]
    rw [if_pos (by omega), if_pos (by omega), if_pos (by omega), w64s (by omega) (by omega)]
    rfl
theorem nums_exp (s : ByteArray) : nums64 (expN (bytesOf s)) = (bytesOf s).map (· / 32) ++ 0 :: (bytesOf s).map (· % 32) := by
  have h1 : nums64 (hiL (bytesOf s)) = (bytesOf s).map (· / 32) := by
    unfold nums64 hiL
    rw [List.map_map]
    refine List.map_congr_left fun c hc => ?_
    have := bytesOf_range s c hc
    simp only [Function.comp_apply]
    omega
  have h2 : nums64 (loL (bytesOf s)) = (bytesOf s).map (· % 32) := by
    unfold nums64 loL
    rw [List.map_map]
    refine List.map_congr_left fun c hc => ?_
    simp only [Function.comp_apply]
    omega
  unfold expN
  rw [nums_append, h1, show nums64 (0 :: loL (bytesOf s)) = 0 :: nums64 (loL (bytesOf s)) from rfl, h2]
theorem expanded_calls (s : ByteArray) (hs : s.size ≤ 1000000) (w : World) :
    Calls Tryd.prog 16 #[.string s] w fun e w' => ∃ v, e = .returned v ∧ Kd.R (Kd.int .u8) 5 w' w.heap.size (fun _ => True) v (nums64 (expN (bytesOf s))) ∧ Below w.heap.size w w' := by
  obtain ⟨k, hk⟩ := (exp_l0 s hs s.size 0 [] rfl (by omega) rfl).rounds
  rw [List.drop_zero, List.nil_append, ← nums_exp] at hk
  exact PFnBech32.spec_expanded.calls k s _ w hk
end Go.Proofs.YthkijnfpllbdnaaDoor.Bec
