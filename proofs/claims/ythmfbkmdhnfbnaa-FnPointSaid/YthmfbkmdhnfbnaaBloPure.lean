/-
  Filters in plain words: the bits of an item, setting them, asking for them.
-/
import Derived.Test.YthmfbkmdhnfbnaaMurPure
namespace Go.Proofs.Ythmfbkmdhnfbnaa.Blo
open Mur

def ix (tw : Int) (n : Nat) (l : List Int) (i : Nat) : Int := mur (((i : Int) * 4221880213 % 4294967296 + tw) % 4294967296) l % (8 * (n : Int))
def bitsL (fu : Nat) (tw : Int) (n : Nat) (l : List Int) : List Int := (List.range fu).map (ix tw n l)
def rdI (D : List Int) (i : Int) : Int := D.getD i.toNat 0
def setBit (D : List Int) (j : Int) : List Int := D.set (j / 8).toNat (Go.bits .or .u8 (rdI D (j / 8)) (2 ^ (j % 8).toNat % 256))
def added (D : List Int) (js : List Int) : List Int := js.foldl setBit D
def hasBit (D : List Int) (j : Int) : Bool := Go.bits .and .u8 (rdI D (j / 8) / 2 ^ (j % 8).toNat) 1 != 0
def might (D : List Int) (js : List Int) : Bool := js.all (hasBit D)

theorem mur_range (s : Int) (l : List Int) : 0 ≤ mur s l ∧ mur s l < 4294967296 := by
  unfold mur fin fin3
  generalize fin2 _ = h
  simp only [Go.bits]
  rw [IntKind.wrap_u32]
  omega
theorem ix_range (tw : Int) (n : Nat) (l : List Int) (i : Nat) (h : 0 < n) : 0 ≤ ix tw n l i ∧ ix tw n l i < 8 * n := by
  unfold ix
  exact ⟨Int.emod_nonneg _ (by omega), Int.emod_lt_of_pos _ (by omega)⟩
theorem bitsL_range {fu : Nat} {tw : Int} {n : Nat} {l : List Int} (h : 0 < n) : ∀ j ∈ bitsL fu tw n l, 0 ≤ j ∧ j < 8 * n := by
  intro j hj
  obtain ⟨i, _, rfl⟩ := List.mem_map.1 hj
  exact ix_range tw n l i h
theorem bitsL_length (fu : Nat) (tw : Int) (n : Nat) (l : List Int) : (bitsL fu tw n l).length = fu := by simp [bitsL]
theorem bitsL_snoc (fu : Nat) (tw : Int) (n : Nat) (l : List Int) : bitsL (fu + 1) tw n l = bitsL fu tw n l ++ [ix tw n l fu] := by simp [bitsL, List.range_succ]
theorem setBit_length (D : List Int) (j : Int) : (setBit D j).length = D.length := by simp [setBit]
theorem added_length (js : List Int) : ∀ D : List Int, (added D js).length = D.length := by
  induction js with
  | nil => intro D; rfl
  | cons j js ih => intro D; show (added (setBit D j) js).length = _; rw [ih, setBit_length]
theorem added_snoc (D js : List Int) (j : Int) : added D (js ++ [j]) = setBit (added D js) j := by simp [added]
end Go.Proofs.Ythmfbkmdhnfbnaa.Blo
