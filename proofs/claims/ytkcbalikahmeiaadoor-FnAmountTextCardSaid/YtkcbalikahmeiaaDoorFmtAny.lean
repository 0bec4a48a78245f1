/-
  fmtEFG at the letters of a number: the number with its point.
-/
import Derived.Test.YtkcbalikahmeiaaDoorFmtWalk
import Derived.Test.YtkcbalikahmeiaaDoorLetPure
namespace Go.Proofs.YtkcbalikahmeiaaDoor.Aft
open Go.RowKit Go.Lib Go.Proofs.YtkcbalikahmeiaaDoor.Hand Go.Proofs.YtkcbalikahmeiaaDoorW.PrintWords Go.Proofs.YtkcbalikahmeiaaDoorW.PrintLast Go.Proofs.YtkcbalikahmeiaaDoorW.PrintMore

def sgnL (neg : Bool) : List Int := if neg then [45] else []
theorem fmt_any (B gd gb L u Q s : Nat) (dp q : Int) (neg sh : Bool) (l : List Int) (T : TypeId) (v : Value) (w : World) (hS : Sep B gd gb w) (hD : DS B gd gb l T w w v []) (hl : Holds u l) (hll : l.length = L) (hL : L ≤ 40) (h1 : 1 ≤ u) (hQ : Q ≤ 40)
    (hs : s = sl l (nDigits u)) (hdp : dp = (nDigits u : Int) - Q) (hq : q = max ((s : Int) - dp) 0) :
    Calls Tryd.prog 27 #[v, .bool neg, .slice (some ⟨gb, 0, none⟩) L L, .int .i64 dp, .int .i64 s, .int .i64 q, .int .u8 102, .bool sh] w fun e w' =>
      ∃ v1, e = .returned v1 ∧ DS B gd gb l T w w' v1 (sgnL neg ++ txt u Q) := by
  have hlen := hl.len
  have hsle : s ≤ nDigits u := by rw [hs]; exact sl_le _ _
  have hs1 : 1 ≤ s := by rw [hs]; exact sl_pos u l hl h1
  by_cases hp : Q < nDigits u
  · obtain ⟨D, hD'⟩ : ∃ D, D = nDigits u - Q := ⟨_, rfl⟩
    have hT := txt_pos u Q D s (min s D) l hl hp hD' hs rfl
    have e : ∀ S : List Int, S ++ (l.take (min s D) ++ List.replicate (D - min s D) 48) ++ (if 0 < q then 46 :: (List.replicate 0 48 ++ (l.drop D).take (s - D) ++ List.replicate 0 48) else []) = S ++ txt u Q := by
      intro S
      rw [← hT, List.append_assoc]
      congr 2
      by_cases h : 0 < s - D
      · rw [if_pos h, if_pos (by omega)]
      · rw [if_neg h, if_neg (by omega)]
    cases neg
    · have h := fmt_pos B gd gb L (min s D) (D - min s D) 0 D (s - D) 0 dp s q sh l T v w hS hD hll hL (by omega) (by omega) (by omega) (by omega) (by omega) (by omega) (by omega) (by omega) (by omega) (by omega) (by omega) (by omega)
      rw [e] at h
      exact h
    · have h := fmt_pos_neg B gd gb L (min s D) (D - min s D) 0 D (s - D) 0 dp s q sh l T v w hS hD hll hL (by omega) (by omega) (by omega) (by omega) (by omega) (by omega) (by omega) (by omega) (by omega) (by omega) (by omega) (by omega)
      rw [e] at h
      exact h
  · have hT := txt_small u Q s l hl h1 (by omega) hs
    have e : ∀ S : List Int, S ++ [48] ++ (if 0 < q then 46 :: (List.replicate (Q - nDigits u) 48 ++ (l.drop 0).take s ++ List.replicate 0 48) else []) = S ++ txt u Q := by
      intro S
      rw [← hT, if_pos (by omega), List.append_assoc]
    cases neg
    · have h := fmt_small B gd gb L (Q - nDigits u) 0 s 0 dp s q sh l T v w hS hD hll hL (by omega) (by omega) (by omega) (by omega) (by omega) (by omega) (by omega) (by omega)
      rw [e] at h
      exact h
    · have h := fmt_small_neg B gd gb L (Q - nDigits u) 0 s 0 dp s q sh l T v w hS hD hll hL (by omega) (by omega) (by omega) (by omega) (by omega) (by omega) (by omega) (by omega)
      rw [e] at h
      exact h
/-- .. with no letters behind the point. -/
theorem fmt_int (B gd gb L u s : Nat) (neg sh : Bool) (l : List Int) (T : TypeId) (v : Value) (w : World) (hS : Sep B gd gb w) (hD : DS B gd gb l T w w v []) (hl : Holds u l) (hll : l.length = L) (hL : L ≤ 40) (h1 : 1 ≤ u)
    (hs : s = sl l (nDigits u)) :
    Calls Tryd.prog 27 #[v, .bool neg, .slice (some ⟨gb, 0, none⟩) L L, .int .i64 (nDigits u : Int), .int .i64 s, .int .i64 0, .int .u8 102, .bool sh] w fun e w' =>
      ∃ v1, e = .returned v1 ∧ DS B gd gb l T w w' v1 (sgnL neg ++ txt u 0) := by
  have h := sl_le l (nDigits u)
  exact fmt_any B gd gb L u 0 s (nDigits u : Int) 0 neg sh l T v w hS hD hl hll hL h1 (by omega) hs (by omega) (by omega)
end Go.Proofs.YtkcbalikahmeiaaDoor.Aft
