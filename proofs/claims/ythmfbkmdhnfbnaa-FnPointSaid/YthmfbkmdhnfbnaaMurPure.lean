/-
  MurmurHash3 of a list of bytes, in plain words: no Go, no memory.
-/
import Derived.Lib.EndianBits
import Derived.Lib.EndianZ
namespace Go.Proofs.Ythmfbkmdhnfbnaa.Mur

def rot (x p q : Int) : Int := Go.bits .or .u32 (x * p % 4294967296) (x / q)
def mix (k : Int) : Int := rot (k * 3432918353 % 4294967296) 32768 131072 * 461845907 % 4294967296
def step (h k : Int) : Int := (rot (Go.bits .xor .u32 h (mix k)) 8192 524288 * 5 % 4294967296 + 3864292196) % 4294967296
def body : Int → List Int → Int × List Int
  | h, a :: b :: c :: d :: T => body (step h (Lib.leZ [a, b, c, d])) T
  | h, T => (h, T)
def tail (h : Int) (T : List Int) : Int := if T = [] then h else Go.bits .xor .u32 h (mix (Lib.leZ T))
def fin1 (h : Int) : Int := Go.bits .xor .u32 h (h / 65536) * 2246822507 % 4294967296
def fin2 (h : Int) : Int := Go.bits .xor .u32 h (h / 8192) * 3266489909 % 4294967296
def fin3 (h : Int) : Int := Go.bits .xor .u32 h (h / 65536)
def fin (h n : Int) : Int := fin3 (fin2 (fin1 (Go.bits .xor .u32 h n)))
def mur (seed : Int) (b : List Int) : Int := fin (tail (body seed b).1 (body seed b).2) b.length

theorem body_four (h a b c d : Int) (T : List Int) : body h (a :: b :: c :: d :: T) = body (step h (Lib.leZ [a, b, c, d])) T := by rw [body]
theorem body_short (h : Int) : ∀ T : List Int, T.length < 4 → body h T = (h, T)
  | [], _ => by simp [body]
  | [_], _ => by simp [body]
  | [_, _], _ => by simp [body]
  | [_, _, _], _ => by simp [body]
  | _ :: _ :: _ :: _ :: _, h => by simp at h; omega

theorem mur_nil : mur 1 [] = 1364076727 := by
  have e : body 1 [] = (1, []) := by simp [body]
  unfold mur
  rw [e]
  decide +kernel

/-- 'x ^ y' where y lies below 2^i and x is a multiple of 2^i. -/
theorem nat_xor_join (i q b : Nat) (h : b < 2 ^ i) : (2 ^ i * q) ^^^ b = 2 ^ i * q + b := by
  rw [Nat.two_pow_add_eq_or_of_lt h]
  apply Nat.eq_of_testBit_eq
  intro j
  rw [Nat.testBit_xor, Nat.testBit_or, Nat.testBit_two_pow_mul]
  by_cases hj : i ≤ j
  · have hb : b.testBit j = false := Nat.testBit_lt_two_pow (Nat.lt_of_lt_of_le h (Nat.pow_le_pow_right (by decide) hj))
    simp [hb]
  · simp [hj]
theorem xor_join (i : Nat) (x y : Int) (hx0 : 0 ≤ x) (hx : x % 2 ^ i = 0) (hx1 : x < 4294967296) (hy0 : 0 ≤ y) (hy : y < 2 ^ i) (hy1 : y < 4294967296) : Go.bits .xor .u32 x y = x + y := by
  obtain ⟨a, rfl⟩ := Int.eq_ofNat_of_zero_le hx0
  obtain ⟨b, rfl⟩ := Int.eq_ofNat_of_zero_le hy0
  have ha : a < 2 ^ 32 := by omega
  have hb : b < 2 ^ 32 := by omega
  have hb' : b < 2 ^ i := by exact_mod_cast hy
  have hd : a % 2 ^ i = 0 := by exact_mod_cast hx
  have hq : a = 2 ^ i * (a / 2 ^ i) := by
    have := Nat.div_add_mod a (2 ^ i)
    omega
  have e : Go.bits .xor .u32 (a : Int) (b : Int) = ((a ^^^ b : Nat) : Int) := by
    have ha' : a % 2 ^ (IntKind.u32).bits = a := Nat.mod_eq_of_lt ha
    have hb' : b % 2 ^ (IntKind.u32).bits = b := Nat.mod_eq_of_lt hb
    simp only [Go.bits, BitVec.ofInt_natCast, BitVec.toNat_xor, BitVec.toNat_ofNat, ha', hb']
    have hl := Nat.xor_lt_two_pow ha hb
    exact wraps_u32 _ (Int.natCast_nonneg _) (by exact_mod_cast hl)
  rw [e, hq, nat_xor_join i _ b hb']
  simp
end Go.Proofs.Ythmfbkmdhnfbnaa.Mur
