/-
  The checksum's remainder in plain words, and that it is linear.
-/
import Derived.Laws.BitsAllLaws
import Derived.WalkKit
namespace Go.Proofs.YthkijnfpllbdnaaDoor.Bec
open Go

theorem ofInt_i64 (a : Nat) (ha : a < 9223372036854775808) : (BitVec.ofInt 64 (a : Int)).toNat = a := by
  rw [BitVec.ofInt_natCast, BitVec.toNat_ofNat]; exact Nat.mod_eq_of_lt (by omega)
theorem i64_xor (a b : Nat) (ha : a < 1073741824) (hb : b < 1073741824) : bits .xor .i64 (a : Int) (b : Int) = ((a ^^^ b : Nat) : Int) := by
  have hx : a ^^^ b < 2 ^ 30 := Nat.xor_lt_two_pow (by omega) (by omega)
  show IntKind.i64.wrap ((BitVec.ofInt 64 (a : Int) ^^^ BitVec.ofInt 64 (b : Int)).toNat : Int) = _
  rw [BitVec.toNat_xor, ofInt_i64 a (by omega), ofInt_i64 b (by omega), IntKind.wrap_i64]
  omega
theorem i64_and (a b : Nat) (ha : a < 1073741824) (hb : b < 1073741824) : bits .and .i64 (a : Int) (b : Int) = ((a &&& b : Nat) : Int) := by
  have hx : a &&& b < 2 ^ 30 := Nat.and_lt_two_pow _ (by omega)
  show IntKind.i64.wrap ((BitVec.ofInt 64 (a : Int) &&& BitVec.ofInt 64 (b : Int)).toNat : Int) = _
  rw [BitVec.toNat_and, ofInt_i64 a (by omega), ofInt_i64 b (by omega), IntKind.wrap_i64]
  omega

def gen : Nat → Nat
  | 0 => 996825010
  | 1 => 642813549
  | 2 => 513874426
  | 3 => 1027748829
  | 4 => 705979059
  | _ => 0
theorem gen_lt (i : Nat) : gen i < 2 ^ 30 := by
  unfold gen
  split <;> decide
/-- The generators taken in at the set bits of b, the first i of them. -/
def taps (b x : Nat) : Nat → Nat
  | 0 => x
  | i + 1 => if b / 2 ^ i % 2 = 1 then taps b x i ^^^ gen i else taps b x i
def pstep (c v : Nat) : Nat := taps (c / 33554432) (c % 33554432 * 32 ^^^ v) 5
def poly (c : Nat) (vs : List Nat) : Nat := vs.foldl pstep c

theorem taps_lt {b x : Nat} (hx : x < 2 ^ 30) : ∀ i, taps b x i < 2 ^ 30
  | 0 => hx
  | i + 1 => by
    unfold taps
    split
    · exact Nat.xor_lt_two_pow (taps_lt hx i) (gen_lt i)
    · exact taps_lt hx i
theorem base_lt (c v : Nat) (hv : v < 2 ^ 30) : c % 33554432 * 32 ^^^ v < 2 ^ 30 := Nat.xor_lt_two_pow (by omega) hv
theorem pstep_lt (c v : Nat) (hv : v < 2 ^ 30) : pstep c v < 2 ^ 30 := taps_lt (base_lt c v hv) 5
theorem poly_lt : ∀ (vs : List Nat) (c : Nat), c < 2 ^ 30 → (∀ v ∈ vs, v < 2 ^ 30) → poly c vs < 2 ^ 30
  | [], c, hc, _ => hc
  | v :: vs, c, _, hv => poly_lt vs (pstep c v) (pstep_lt c v (hv v (by simp))) (fun x hx => hv x (by simp [hx]))
theorem poly_append (c : Nat) (a b : List Nat) : poly c (a ++ b) = poly (poly c a) b := by simp [poly]

theorem taps_xor (b x : Nat) : ∀ i, taps b x i = x ^^^ taps b 0 i
  | 0 => by simp [taps]
  | i + 1 => by
    unfold taps
    split
    · rw [taps_xor b x i, Nat.xor_assoc]
    · exact taps_xor b x i
theorem bit_xor (a b i : Nat) : (a ^^^ b) / 2 ^ i % 2 = (a / 2 ^ i % 2 + b / 2 ^ i % 2) % 2 := by
  have h : ((a ^^^ b).testBit i) = (a.testBit i ^^ b.testBit i) := Nat.testBit_xor ..
  simp only [Nat.testBit_eq_decide_div_mod_eq] at h
  have h1 := Nat.mod_two_eq_zero_or_one (a / 2 ^ i)
  have h2 := Nat.mod_two_eq_zero_or_one (b / 2 ^ i)
  have h3 := Nat.mod_two_eq_zero_or_one ((a ^^^ b) / 2 ^ i)
  rcases h1 with h1 | h1 <;> rcases h2 with h2 | h2 <;> rcases h3 with h3 | h3 <;> simp [h1, h2, h3] at h ⊢
theorem xor_turn (a b c : Nat) : a ^^^ c ^^^ (b ^^^ c) = a ^^^ b := by
  rw [Nat.xor_comm b c, Nat.xor_assoc a c, ← Nat.xor_assoc c c b, Nat.xor_self, Nat.zero_xor]
theorem taps_lin (a b : Nat) : ∀ i, taps (a ^^^ b) 0 i = taps a 0 i ^^^ taps b 0 i
  | 0 => by simp [taps]
  | i + 1 => by
    have ih := taps_lin a b i
    have hb := bit_xor a b i
    unfold taps
    rw [hb, ih]
    have h1 := Nat.mod_two_eq_zero_or_one (a / 2 ^ i)
    have h2 := Nat.mod_two_eq_zero_or_one (b / 2 ^ i)
    rcases h1 with h1 | h1 <;> rcases h2 with h2 | h2 <;> simp only [h1, h2, Nat.reduceAdd, Nat.reduceMod, if_true, if_false, Nat.zero_ne_one]
    · rw [Nat.xor_assoc]
    · rw [Nat.xor_assoc, Nat.xor_assoc, Nat.xor_comm (gen i)]
    · rw [xor_turn]
theorem div_xor (a b k : Nat) : (a ^^^ b) / 2 ^ k = a / 2 ^ k ^^^ b / 2 ^ k := by
  simp only [← Nat.shiftRight_eq_div_pow]; exact Nat.shiftRight_xor_distrib ..
theorem mul_xor (a b k : Nat) : (a ^^^ b) * 2 ^ k = a * 2 ^ k ^^^ b * 2 ^ k := by
  simp only [← Nat.shiftLeft_eq]; exact Nat.shiftLeft_xor_distrib ..
theorem mod_xor (a b k : Nat) : (a ^^^ b) % 2 ^ k = a % 2 ^ k ^^^ b % 2 ^ k := Nat.xor_mod_two_pow
theorem xor4 (a b c d : Nat) : a ^^^ b ^^^ (c ^^^ d) = a ^^^ c ^^^ (b ^^^ d) := by
  rw [Nat.xor_assoc, ← Nat.xor_assoc b, Nat.xor_comm b c, Nat.xor_assoc c, ← Nat.xor_assoc]
/-- A step is linear. -/
theorem pstep_lin (c d v u : Nat) : pstep (c ^^^ d) (v ^^^ u) = pstep c v ^^^ pstep d u := by
  unfold pstep
  have e1 := div_xor c d 25
  have e2 := mod_xor c d 25
  have e3 := mul_xor (c % 2 ^ 25) (d % 2 ^ 25) 5
  have n1 : 2 ^ 25 = 33554432 := rfl
  have n2 : 2 ^ 5 = 32 := rfl
  rw [n1] at e1 e2 e3
  rw [n2] at e3
  rw [e1, e2, e3, taps_xor, taps_xor (c / 33554432), taps_xor (d / 33554432), taps_lin]
  rw [xor4 (c % 33554432 * 32), xor4 (c % 33554432 * 32 ^^^ v)]
theorem poly_lin : ∀ (vs us : List Nat) (c d : Nat), vs.length = us.length → poly (c ^^^ d) (List.zipWith (· ^^^ ·) vs us) = poly c vs ^^^ poly d us
  | [], [], c, d, _ => rfl
  | v :: vs, u :: us, c, d, h => by
    show poly (pstep (c ^^^ d) (v ^^^ u)) (List.zipWith (· ^^^ ·) vs us) = poly (pstep c v) vs ^^^ poly (pstep d u) us
    rw [pstep_lin]
    exact poly_lin vs us _ _ (by simpa using h)

/-- While no generator is taken in, a step lays five bits behind the others. -/
theorem pstep_small (c v : Nat) (hc : c < 2 ^ 25) (hv : v < 32) : pstep c v = c * 32 + v := by
  have h0 : c / 33554432 = 0 := by omega
  have h1 : c % 33554432 = c := by omega
  unfold pstep
  rw [h0, h1]
  have ht : ∀ x i, taps 0 x i = x := fun x i => by
    induction i with
    | zero => rfl
    | succ i ih => unfold taps; rw [Nat.zero_div, if_neg (by decide), ih]
  rw [ht]
  have e1 := div_xor (c * 32) v 5
  have e2 := mod_xor (c * 32) v 5
  have n2 : 2 ^ 5 = 32 := rfl
  rw [n2] at e1 e2
  have h3 : c * 32 / 32 = c := Nat.mul_div_cancel _ (by decide)
  have h4 : v / 32 = 0 := by omega
  have h5 : c * 32 % 32 = 0 := Nat.mul_mod_left ..
  have h6 : v % 32 = v := by omega
  rw [h3, h4, Nat.xor_zero] at e1
  rw [h5, h6, Nat.zero_xor] at e2
  omega
/-- The six groups of a number of 30 bits. -/
def six (p : Nat) : List Nat := [p / 33554432 % 32, p / 1048576 % 32, p / 32768 % 32, p / 1024 % 32, p / 32 % 32, p % 32]
theorem poly_six (p : Nat) (hp : p < 2 ^ 30) : poly 0 (six p) = p := by
  show pstep (pstep (pstep (pstep (pstep (pstep 0 _) _) _) _) _) _ = p
  have e1 : pstep 0 (p / 33554432 % 32) = p / 33554432 := by rw [pstep_small _ _ (by omega) (by omega)]; omega
  have e2 : pstep (p / 33554432) (p / 1048576 % 32) = p / 1048576 := by rw [pstep_small _ _ (by omega) (by omega)]; omega
  have e3 : pstep (p / 1048576) (p / 32768 % 32) = p / 32768 := by rw [pstep_small _ _ (by omega) (by omega)]; omega
  have e4 : pstep (p / 32768) (p / 1024 % 32) = p / 1024 := by rw [pstep_small _ _ (by omega) (by omega)]; omega
  have e5 : pstep (p / 1024) (p / 32 % 32) = p / 32 := by rw [pstep_small _ _ (by omega) (by omega)]; omega
  have e6 : pstep (p / 32) (p % 32) = p := by rw [pstep_small _ _ (by omega) (by omega)]; omega
  rw [e1, e2, e3, e4, e5, e6]
/-- What is written behind the groups makes the remainder 1. -/
theorem poly_check (c : Nat) (hc : c < 2 ^ 30) : poly c (six (poly c [0, 0, 0, 0, 0, 0] ^^^ 1)) = 1 := by
  have hp : poly c [0, 0, 0, 0, 0, 0] < 2 ^ 30 := poly_lt _ _ hc (by simp)
  generalize hP : poly c [0, 0, 0, 0, 0, 0] = P at hp ⊢
  have hq : P ^^^ 1 < 2 ^ 30 := Nat.xor_lt_two_pow hp (by decide)
  have h := poly_lin [0, 0, 0, 0, 0, 0] (six (P ^^^ 1)) c 0 rfl
  rw [Nat.xor_zero, hP, poly_six _ hq] at h
  have e : List.zipWith (· ^^^ ·) [0, 0, 0, 0, 0, 0] (six (P ^^^ 1)) = six (P ^^^ 1) := by simp [six]
  rw [e] at h
  rw [h, ← Nat.xor_assoc, Nat.xor_self, Nat.zero_xor]
end Go.Proofs.YthkijnfpllbdnaaDoor.Bec
