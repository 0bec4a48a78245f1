/-
  The library's counting and writing of digits, by the shelf's contracts: the laying, in plain words.
-/
import Derived.Test.YtkcbalikahmeiaaDoorProg
import Derived.Shelf.Strconv.Itoa4
import Derived.Ground.NamesProg
namespace Go.Proofs.YtkcbalikahmeiaaDoor.Aft
open Go.RowKit Go.Shelf

def laysLen_ren : Go.Shelf.Ren := ⟨fun | 129 => 28 | n => n, fun | 53 => 45 | 3 => 3 | 4 => 4 | 46 => 41 | 5 => 5 | 9 => 9 | n => n, fun | n => n⟩
theorem laysLen : Go.Proofs.Lays.n129 Tryd.prog laysLen_ren where
  mixed := by kernel_rfl
  f129 := Tryd.func28.trans (congrArg some (by kernel_rfl))
  t3 := Tryd.underlying3
  a3 := Tryd.isAgg3
  z3 := Tryd.sizeOf3
  v3 := Tryd.zeroValue3
  t4 := Tryd.underlying4
  a4 := Tryd.isAgg4
  z4 := Tryd.sizeOf4
  v4 := Tryd.zeroValue4
  t5 := Tryd.underlying5
  a5 := Tryd.isAgg5
  z5 := Tryd.sizeOf5
  v5 := Tryd.zeroValue5
  t9 := Tryd.underlying9
  a9 := Tryd.isAgg9
  z9 := Tryd.sizeOf9
  v9 := Tryd.zeroValue9
  t46 := Tryd.underlying41
  a46 := Tryd.isAgg41
  z46 := Tryd.sizeOf41
  v46 := Tryd.zeroValue41
  t53 := Tryd.underlying45
  a53 := Tryd.isAgg45
  z53 := Tryd.sizeOf45
  v53 := Tryd.zeroValue45
def laysNum_ren : Go.Shelf.Ren := ⟨fun | 284 => 20 | 129 => 28 | 317 => 31 | 318 => 38 | n => n, fun | 53 => 45 | 3 => 3 | 212 => 71 | 0 => 0 | 4 => 4 | 46 => 41 | 5 => 5 | 9 => 9 | n => n, fun | 17 => 5 | n => n⟩
theorem laysNum : Go.Proofs.LaysM.n284 Tryd.prog laysNum_ren where
  mixed := by kernel_rfl
  f129 := Tryd.func28.trans (congrArg some (by kernel_rfl))
  f284 := Tryd.func20.trans (congrArg some (by kernel_rfl))
  f317 := Tryd.func31.trans (congrArg some (by kernel_rfl))
  f318 := Tryd.func38.trans (congrArg some (by kernel_rfl))
  t0 := Tryd.underlying0
  a0 := Tryd.isAgg0
  z0 := Tryd.sizeOf0
  v0 := Tryd.zeroValue0
  t3 := Tryd.underlying3
  a3 := Tryd.isAgg3
  z3 := Tryd.sizeOf3
  v3 := Tryd.zeroValue3
  t4 := Tryd.underlying4
  a4 := Tryd.isAgg4
  z4 := Tryd.sizeOf4
  v4 := Tryd.zeroValue4
  t5 := Tryd.underlying5
  a5 := Tryd.isAgg5
  z5 := Tryd.sizeOf5
  v5 := Tryd.zeroValue5
  t9 := Tryd.underlying9
  a9 := Tryd.isAgg9
  z9 := Tryd.sizeOf9
  v9 := Tryd.zeroValue9
  t46 := Tryd.underlying41
  a46 := Tryd.isAgg41
  z46 := Tryd.sizeOf41
  v46 := Tryd.zeroValue41
  t53 := Tryd.underlying45
  a53 := Tryd.isAgg45
  z53 := Tryd.sizeOf45
  v53 := Tryd.zeroValue45
  t212 := Tryd.underlying71
  a212 := Tryd.isAgg71
  z212 := Tryd.sizeOf71
  v212 := Tryd.zeroValue71
  g17 := by kernel_rfl
  i0 := by kernel_rfl
  i3 := by kernel_rfl
  i4 := by kernel_rfl
  i5 := by kernel_rfl
  i9 := by kernel_rfl
  i46 := by kernel_rfl
  i53 := by kernel_rfl
  i212 := by kernel_rfl
  m17 := by kernel_rfl
def laysB10_ren : Go.Shelf.Ren := ⟨fun | 285 => 21 | n => n, fun | 37 => 31 | 53 => 45 | 3 => 3 | 4 => 4 | 51 => 50 | 9 => 9 | 5 => 5 | 0 => 0 | n => n, fun | n => n⟩
theorem laysB10 : Go.Proofs.Lays.n285 Tryd.prog laysB10_ren where
  mixed := by kernel_rfl
  f285 := Tryd.func21.trans (congrArg some (by kernel_rfl))
  t0 := Tryd.underlying0
  a0 := Tryd.isAgg0
  z0 := Tryd.sizeOf0
  v0 := Tryd.zeroValue0
  t3 := Tryd.underlying3
  a3 := Tryd.isAgg3
  z3 := Tryd.sizeOf3
  v3 := Tryd.zeroValue3
  t4 := Tryd.underlying4
  a4 := Tryd.isAgg4
  z4 := Tryd.sizeOf4
  v4 := Tryd.zeroValue4
  t5 := Tryd.underlying5
  a5 := Tryd.isAgg5
  z5 := Tryd.sizeOf5
  v5 := Tryd.zeroValue5
  t9 := Tryd.underlying9
  a9 := Tryd.isAgg9
  z9 := Tryd.sizeOf9
  v9 := Tryd.zeroValue9
  t37 := Tryd.underlying31
  a37 := Tryd.isAgg31
  z37 := Tryd.sizeOf31
  v37 := Tryd.zeroValue31
  t51 := Tryd.underlying50
  a51 := Tryd.isAgg50
  z51 := Tryd.sizeOf50
  v51 := Tryd.zeroValue50
  t53 := Tryd.underlying45
  a53 := Tryd.isAgg45
  z53 := Tryd.sizeOf45
  v53 := Tryd.zeroValue45

theorem len_calls (x : Nat) (h : x < 18446744073709551616) (w : World) : Calls Tryd.prog 28 #[.int .u64 x] w fun e w' => e = .returned (.int .i64 (Lib.bitLen x)) ∧ w' = w :=
  Any.bits_Len64 laysLen (x : Int) w (by omega) (by omega)
theorem num_calls (u : Nat) (h1 : 1 ≤ u) (h2 : u < 18446744073709551616) (w : World) (htab : Lib.TabIs Tryd.prog w "internal/strconv.uint64pow10" .u64 Lib.pow10Tab) : Calls Tryd.prog 20 #[.int .u64 u] w fun e w' => e = .returned (.int .i64 (Lib.nDigits u)) ∧ w' = w :=
  Any.internal_strconv_numDigits laysNum u h1 h2 w htab
end Go.Proofs.YtkcbalikahmeiaaDoor.Aft
