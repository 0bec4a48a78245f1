/-
  strings.ToLower and strings.ToUpper over texts of ASCII, by the shelf's contracts.
-/
import Derived.Test.YthkijnfpllbdnaaDoorChaWalk
import Derived.Shelf.Strings.OnBuilder
import Derived.Shelf.Lay
import Derived.Ground.NamesProg
namespace Go.Proofs.YthkijnfpllbdnaaDoor.Bec
open Go.RowKit Go.Shelf Go.Proofs.YthkijnfpllbdnaaDoor.Hand Go.Proofs.YthkijnfpllbdnaaDoorW.PrintWords Go.Proofs.YthkijnfpllbdnaaDoorW.PrintLast Go.Proofs.YthkijnfpllbdnaaDoorW.PrintMore

shelf_lay Lays.n159 Nm 159 at Tryd as laysLower
shelf_lay Lays.n158 Nm 158 at Tryd as laysUpper

theorem extraLower : Builder.Extra Tryd.prog laysLower_ren where
  sizeBuilder := by kernel_rfl
  liesBuilder := by kernel_rfl
  t5 := laysLower.t5
  a5 := laysLower.a5
  z5 := laysLower.z5
  v5 := laysLower.v5
  infoByte := by kernel_rfl
  cellsByte := by kernel_rfl
  sizeByte := by kernel_rfl
  neB5 := by decide
theorem extraUpper : Builder.Extra Tryd.prog laysUpper_ren where
  sizeBuilder := by kernel_rfl
  liesBuilder := by kernel_rfl
  t5 := laysUpper.t5
  a5 := laysUpper.a5
  z5 := laysUpper.z5
  v5 := laysUpper.v5
  infoByte := by kernel_rfl
  cellsByte := by kernel_rfl
  sizeByte := by kernel_rfl
  neB5 := by decide

def lowI (c : Int) : Int := if 65 ≤ c ∧ c ≤ 90 then c + 32 else c
def upI (c : Int) : Int := if 97 ≤ c ∧ c ≤ 122 then c - 32 else c
theorem ascii_of {s : ByteArray} (h : ∀ c ∈ bytesOf s, c < 128) : ∀ (j : Nat) (b : UInt8), s.data.toList[j]? = some b → b.toNat < 128 := fun j b hb => by
  have := h (b.toNat : Int) (List.mem_map.2 ⟨b, List.mem_of_getElem? hb, rfl⟩)
  omega
theorem case_str (f : UInt8 → UInt8) (g : Int → Int) (hfg : ∀ n : Fin 128, ((f (UInt8.ofNat n.val)).toNat : Int) = g (n.val : Int)) (s : ByteArray) (h : ∀ c ∈ bytesOf s, c < 128) :
    (⟨(s.data.toList.map f).toArray⟩ : ByteArray) = strOfNums ((bytesOf s).map g) := by
  unfold strOfNums bytesOf
  congr 2
  rw [List.map_map, List.map_map]
  refine List.map_congr_left fun b hb => ?_
  have hlt := h (b.toNat : Int) (List.mem_map.2 ⟨b, hb, rfl⟩)
  have hn := hfg ⟨b.toNat, by omega⟩
  simp only [UInt8.ofNat_toNat] at hn
  simp only [Function.comp_apply]
  rw [← hn, Int.toNat_natCast, UInt8.ofNat_toNat]
theorem lower_calls (s : ByteArray) (w : World) (hs : s.size ≤ 1000000) (h : ∀ c ∈ bytesOf s, c < 128) :
    Calls Tryd.prog 21 #[.string s] w fun e w' => e = .returned (.string (strOfNums ((bytesOf s).map lowI))) ∧ Below w.heap.size w w' := by
  have h1 := Any.strings_ToLower_ascii laysLower extraLower s w (by omega) (ascii_of h)
  rw [show Lib.toLowerA s.data.toList = s.data.toList.map Lib.lowerB from rfl, case_str Lib.lowerB lowI (by decide +kernel) s h] at h1
  exact h1
theorem upper_calls (s : ByteArray) (w : World) (hs : s.size ≤ 1000000) (h : ∀ c ∈ bytesOf s, c < 128) :
    Calls Tryd.prog 22 #[.string s] w fun e w' => e = .returned (.string (strOfNums ((bytesOf s).map upI))) ∧ Below w.heap.size w w' := by
  have h1 := Any.strings_ToUpper_ascii laysUpper extraUpper s w (by omega) (ascii_of h)
  rw [show Lib.toUpperA s.data.toList = s.data.toList.map Lib.upperB from rfl, case_str Lib.upperB upI (by decide +kernel) s h] at h1
  exact h1
end Go.Proofs.YthkijnfpllbdnaaDoor.Bec
