/-
  What Decode answers, in plain words.
-/
import Derived.Test.YthkijnfpllbdnaaDoorCaseWalk
namespace Go.Proofs.YthkijnfpllbdnaaDoor.Bec
open Go.RowKit Go.Proofs.YthkijnfpllbdnaaDoor.Hand Go.Proofs.YthkijnfpllbdnaaDoorW.PrintWords Go.Proofs.YthkijnfpllbdnaaDoorW.PrintLast Go.Proofs.YthkijnfpllbdnaaDoorW.PrintMore

/-- The last place of the sign 1 among the first n; -1 of none. -/
def lastP (l : List Int) : Nat → Int
  | 0 => -1
  | n + 1 => if l.getD n 0 = 49 then n else lastP l n
theorem lastP_range (l : List Int) : ∀ n, -1 ≤ lastP l n ∧ lastP l n < n
  | 0 => by simp [lastP]
  | n + 1 => by
    have := lastP_range l n
    unfold lastP
    split <;> omega
def seenB (l : List Int) : Bool := l.all fun c => decide (33 ≤ c ∧ c ≤ 126)
def decP (l : List Int) : Option (List Int × List Int) :=
  if l.length < 8 ∨ 90 < l.length then none
  else if seenB l = false then none
  else if l ≠ l.map lowI ∧ l ≠ l.map upI then none
  else if lastP (l.map lowI) l.length < 1 ∨ (l.length : Int) < lastP (l.map lowI) l.length + 7 then none
  else if okL ((l.map lowI).drop ((lastP (l.map lowI) l.length).toNat + 1)) = false then none
  else if poly 1 (expN ((l.map lowI).take (lastP (l.map lowI) l.length).toNat) ++ (((l.map lowI).drop ((lastP (l.map lowI) l.length).toNat + 1)).map idxI).map Int.toNat) ≠ 1 then none
  else some ((l.map lowI).take (lastP (l.map lowI) l.length).toNat, (((l.map lowI).drop ((lastP (l.map lowI) l.length).toNat + 1)).map idxI).take (l.length - (lastP (l.map lowI) l.length).toNat - 7))

theorem bt_getD (s : ByteArray) (i : Nat) : bt s (i : Int) = (bytesOf s).getD i 0 := by
  rw [← rd_bytesOf]; simp [rd]
theorem last_l0 (t : ByteArray) (hs : t.size ≤ 1000) : ∀ n, n ≤ t.size → Ev (fun k => PFnUnBech32.bech32_zzLastByte.l0 k t 49 ((n : Int) - 1)) (lastP (bytesOf t) n) := by
  intro n
  induction n with
  | zero =>
    intro _
    refine Ev.step (f := fun _ => some _) (fun k => ?_) (Ev.now _)
    simp only [PFnUnBech32.bech32_zzLastByte.l0]
    rw [if_neg (by omega)]
    rfl
  | succ n ih =>
    intro h
    have hb := bt_getD t n
    by_cases hc : (bytesOf t).getD n 0 = 49
    · refine Ev.step (f := fun _ => some _) (fun k => ?_) (Ev.now _)
      simp only [PFnUnBech32.bech32_zzLastByte.l0]
      rw [show ((n + 1 : Nat) : Int) - 1 = n by omega, hb, hc, lastP, if_pos hc]
      simp
      omega
    · have e : lastP (bytesOf t) (n + 1) = lastP (bytesOf t) n := by rw [lastP, if_neg hc]
      rw [e]
      refine Ev.step (fun k => ?_) (ih (by omega))
      simp only [PFnUnBech32.bech32_zzLastByte.l0]
      rw [show ((n + 1 : Nat) : Int) - 1 = n by omega, hb, if_pos (by omega), if_pos (by omega), if_pos (by omega), if_neg hc, show wrap64 ((n : Int) - 1) = (n : Int) - 1 by unfold wrap64; omega]
theorem last_f (t : ByteArray) (hs : t.size ≤ 1000) : ∃ k, PFnUnBech32.bech32_zzLastByte.f k t 49 = some (lastP (bytesOf t) t.size) := by
  obtain ⟨k, hk⟩ := (last_l0 t hs t.size (Nat.le_refl _)).rounds
  refine ⟨k, ?_⟩
  unfold PFnUnBech32.bech32_zzLastByte.f
  rw [show wrap64 ((t.size : Int) - 1) = (t.size : Int) - 1 by unfold wrap64; omega]
  exact hk

theorem bytes_inj {s t : ByteArray} (h : bytesOf s = bytesOf t) : s = t := by
  have e : s.data.toList = t.data.toList := by
    unfold bytesOf at h
    refine (List.map_inj_right (fun a b hab => ?_)).1 h
    exact UInt8.toNat_inj.1 (by omega)
  cases s; cases t
  simp only at e
  congr 1
  exact Array.toList_inj.1 e
theorem bytesOf_take (t : ByteArray) (n : Nat) : bytesOf (t.extract 0 n) = (bytesOf t).take n := by
  simp [bytesOf, ByteArray.data_extract, List.map_take]
theorem bytesOf_drop (t : ByteArray) (n : Nat) : bytesOf (t.extract n t.size) = (bytesOf t).drop n := by
  unfold bytesOf
  rw [ByteArray.data_extract, Array.toList_extract, List.extract_eq_take_drop, List.take_of_length_le (by rw [List.length_drop, data_length]; exact Nat.le_refl _), List.map_drop]
end Go.Proofs.YthkijnfpllbdnaaDoor.Bec
