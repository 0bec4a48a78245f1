/-
  spec.high is the upper half of the product.
-/
import Derived.Test.YtfhkkojdaejnjaaDoorSipWalk
namespace Go.Proofs.YtfhkkojdaejnjaaDoor.Gcs
open Go.RowKit Go.Proofs.YtfhkkojdaejnjaaDoor.Hand Go.Proofs.YtfhkkojdaejnjaaDoor.PFnForms Go.Proofs.YtfhkkojdaejnjaaDoorW.PrintWords Go.Proofs.YtfhkkojdaejnjaaDoorW.PrintLast Go.Proofs.YtfhkkojdaejnjaaDoorW.PrintMore

theorem limbs (a b al ah bl bh p q r s : Int) (ha : a = ah * 4294967296 + al) (hb : b = bh * 4294967296 + bl) (hp : al * bl = p) (hq : ah * bl = q) (hr : al * bh = r) (hs : ah * bh = s) :
    a * b = s * 18446744073709551616 + (q + r) * 4294967296 + p := by
  subst ha hb hp hq hr hs
  rw [Int.add_mul, Int.mul_add, Int.mul_add]
  have e1 : ah * 4294967296 * (bh * 4294967296) = ah * bh * 18446744073709551616 := by
    rw [Int.mul_assoc, Int.mul_left_comm 4294967296 bh, ← Int.mul_assoc]; rfl
  have e2 : ah * 4294967296 * bl = ah * bl * 4294967296 := by rw [Int.mul_assoc, Int.mul_comm 4294967296 bl, ← Int.mul_assoc]
  have e3 : al * (bh * 4294967296) = al * bh * 4294967296 := by rw [← Int.mul_assoc]
  omega
theorem mul_bd {x y : Int} (h0 : 0 ≤ x) (h1 : x ≤ 4294967295) (g0 : 0 ≤ y) (g1 : y ≤ 4294967295) : 0 ≤ x * y ∧ x * y ≤ 18446744065119617025 :=
  ⟨Int.mul_nonneg h0 g0, Int.le_trans (Int.mul_le_mul h1 g1 g0 (by omega)) (by omega)⟩
theorem wrap_id {x : Int} (h0 : 0 ≤ x) (h1 : x < 18446744073709551616) : IntKind.u64.wrap x = x := by rw [IntKind.wrap_u64]; omega
theorem low32 (x : Int) (h0 : 0 ≤ x) (h1 : x < 18446744073709551616) : Go.bits .and .u64 x 4294967295 = x % 4294967296 := bits_mask .u64 64 (by decide) (fun n h0 h1 => wrap_id h0 (by simpa using h1)) 32 (by decide) x h0 h1
theorem high_f (a b : Int) (ha0 : 0 ≤ a) (ha1 : a < 18446744073709551616) (hb0 : 0 ≤ b) (hb1 : b < 18446744073709551616) : spec_high.f a b = some (a * b / 18446744073709551616) := by
  unfold spec_high.f
  rw [low32 a ha0 ha1, low32 b hb0 hb1]
  have hA : a = a / 4294967296 * 4294967296 + a % 4294967296 := by omega
  have hB : b = b / 4294967296 * 4294967296 + b % 4294967296 := by omega
  have hL := limbs a b _ _ _ _ _ _ _ _ hA hB rfl rfl rfl rfl
  have p1 := mul_bd (x := a % 4294967296) (y := b % 4294967296) (by omega) (by omega) (by omega) (by omega)
  have p2 := mul_bd (x := a / 4294967296) (y := b % 4294967296) (by omega) (by omega) (by omega) (by omega)
  have p3 := mul_bd (x := a % 4294967296) (y := b / 4294967296) (by omega) (by omega) (by omega) (by omega)
  have p4 := mul_bd (x := a / 4294967296) (y := b / 4294967296) (by omega) (by omega) (by omega) (by omega)
  generalize a % 4294967296 * (b % 4294967296) = p at hL p1 ⊢
  generalize a / 4294967296 * (b % 4294967296) = q at hL p2 ⊢
  generalize a % 4294967296 * (b / 4294967296) = r at hL p3 ⊢
  generalize a / 4294967296 * (b / 4294967296) = s at hL p4 ⊢
  rw [hL]
  rw [wrap_id (x := p) (by omega) (by omega), wrap_id (x := q) (by omega) (by omega), wrap_id (x := r) (by omega) (by omega), wrap_id (x := s) (by omega) (by omega)]
  rw [wrap_id (x := q + p / 4294967296) (by omega) (by omega), low32 _ (by omega) (by omega)]
  rw [wrap_id (x := r + (q + p / 4294967296) % 4294967296) (by omega) (by omega)]
  rw [IntKind.wrap_u64, IntKind.wrap_u64]
  congr 1
  have hab : (s * 18446744073709551616 + (q + r) * 4294967296 + p) / 18446744073709551616 = s + (q + p / 4294967296) / 4294967296 + (r + (q + p / 4294967296) % 4294967296) / 4294967296 := by omega
  have hlt : s * 18446744073709551616 + (q + r) * 4294967296 + p < 18446744073709551616 * 18446744073709551616 := by
    rw [← hL]
    exact Int.lt_of_le_of_lt (Int.mul_le_mul (show a ≤ 18446744073709551615 by omega) (show b ≤ 18446744073709551615 by omega) hb0 (by omega)) (by decide)
  rw [hab]
  omega
theorem high_lt (a b : Int) (ha0 : 0 ≤ a) (ha1 : a < 18446744073709551616) (hb0 : 0 < b) : 0 ≤ a * b / 18446744073709551616 ∧ a * b / 18446744073709551616 < b := by
  refine ⟨Int.ediv_nonneg (Int.mul_nonneg ha0 (by omega)) (by omega), Int.ediv_lt_of_lt_mul (by omega) ?_⟩
  rw [Int.mul_comm b]
  exact Int.mul_lt_mul_of_pos_right ha1 hb0
end Go.Proofs.YtfhkkojdaejnjaaDoor.Gcs
