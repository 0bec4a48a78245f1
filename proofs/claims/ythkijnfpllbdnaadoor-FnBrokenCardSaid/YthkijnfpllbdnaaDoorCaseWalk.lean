/-
  strings.ToLower and strings.ToUpper over texts of ASCII, by the shelf's contracts.
-/
import Derived.Test.YthkijnfpllbdnaaDoorChaWalk
import Derived.Shelf.Strings.OnBuilder
import Derived.Ground.NamesProg
namespace Go.Proofs.YthkijnfpllbdnaaDoor.Bec
open Go.RowKit Go.Shelf Go.Proofs.YthkijnfpllbdnaaDoor.Hand Go.Proofs.YthkijnfpllbdnaaDoorW.PrintWords Go.Proofs.YthkijnfpllbdnaaDoorW.PrintLast Go.Proofs.YthkijnfpllbdnaaDoorW.PrintMore

def laysLower_ren : Go.Shelf.Ren := ⟨fun | 159 => 21 | 165 => 28 | 166 => 29 | 167 => 30 | 169 => 31 | 230 => 32 | 204 => 33 | 240 => 38 | 241 => 39 | 197 => 40 | 118 => 41 | 168 => 42 | 270 => 43 | 262 => 44 | 276 => 45 | 277 => 46 | 260 => 47 | 242 => 48 | 313 => 49 | 278 => 50 | 274 => 51 | 275 => 52 | n => n, fun | 9 => 9 | 4 => 4 | 3 => 3 | 5 => 5 | 72 => 58 | 0 => 0 | 76 => 60 | 75 => 39 | 107 => 65 | 70 => 56 | 20 => 20 | 37 => 22 | 127 => 68 | 21 => 21 | 105 => 69 | 164 => 76 | 162 => 82 | 203 => 80 | 119 => 83 | 46 => 46 | 139 => 86 | 138 => 85 | 51 => 35 | 160 => 87 | 208 => 93 | 206 => 91 | 80 => 63 | n => n, fun | 13 => 1 | 3 => 3 | 4 => 4 | n => n⟩
theorem laysLower : Go.Proofs.Lays.n159 Tryd.prog laysLower_ren where
  mixed := by kernel_rfl
  f118 := Tryd.func41.trans (congrArg some (by kernel_rfl))
  f159 := Tryd.func21.trans (congrArg some (by kernel_rfl))
  f165 := Tryd.func28.trans (congrArg some (by kernel_rfl))
  f166 := Tryd.func29.trans (congrArg some (by kernel_rfl))
  f167 := Tryd.func30.trans (congrArg some (by kernel_rfl))
  f168 := Tryd.func42.trans (congrArg some (by kernel_rfl))
  f169 := Tryd.func31.trans (congrArg some (by kernel_rfl))
  f197 := Tryd.func40.trans (congrArg some (by kernel_rfl))
  f204 := Tryd.func33.trans (congrArg some (by kernel_rfl))
  f230 := Tryd.func32.trans (congrArg some (by kernel_rfl))
  f240 := Tryd.func38.trans (congrArg some (by kernel_rfl))
  f241 := Tryd.func39.trans (congrArg some (by kernel_rfl))
  f242 := Tryd.func48.trans (congrArg some (by kernel_rfl))
  f260 := Tryd.func47.trans (congrArg some (by kernel_rfl))
  f262 := Tryd.func44.trans (congrArg some (by kernel_rfl))
  f270 := Tryd.func43.trans (congrArg some (by kernel_rfl))
  f274 := Tryd.func51.trans (congrArg some (by kernel_rfl))
  f275 := Tryd.func52.trans (congrArg some (by kernel_rfl))
  f276 := Tryd.func45.trans (congrArg some (by kernel_rfl))
  f277 := Tryd.func46.trans (congrArg some (by kernel_rfl))
  f278 := Tryd.func50.trans (congrArg some (by kernel_rfl))
  f313 := Tryd.func49.trans (congrArg some (by kernel_rfl))
  t0 := Tryd.underlying0
  a0 := Tryd.isAgg0
  z0 := Tryd.sizeOf0
  v0 := Tryd.zeroValue0
  t3 := Tryd.underlying3
  a3 := Tryd.isAgg3
  z3 := Tryd.sizeOf3
  v3 := Tryd.zeroValue3
  t4 := Tryd.underlying4
  a4 := Tryd.isAgg4
  z4 := Tryd.sizeOf4
  v4 := Tryd.zeroValue4
  t5 := Tryd.underlying5
  a5 := Tryd.isAgg5
  z5 := Tryd.sizeOf5
  v5 := Tryd.zeroValue5
  t9 := Tryd.underlying9
  a9 := Tryd.isAgg9
  z9 := Tryd.sizeOf9
  v9 := Tryd.zeroValue9
  t20 := Tryd.underlying20
  a20 := Tryd.isAgg20
  z20 := Tryd.sizeOf20
  v20 := Tryd.zeroValue20
  t21 := Tryd.underlying21
  a21 := Tryd.isAgg21
  z21 := Tryd.sizeOf21
  v21 := Tryd.zeroValue21
  t37 := Tryd.underlying22
  a37 := Tryd.isAgg22
  z37 := Tryd.sizeOf22
  v37 := Tryd.zeroValue22
  t46 := Tryd.underlying46
  a46 := Tryd.isAgg46
  z46 := Tryd.sizeOf46
  v46 := Tryd.zeroValue46
  t51 := Tryd.underlying35
  a51 := Tryd.isAgg35
  z51 := Tryd.sizeOf35
  v51 := Tryd.zeroValue35
  t70 := Tryd.underlying56
  a70 := Tryd.isAgg56
  z70 := Tryd.sizeOf56
  v70 := Tryd.zeroValue56
  t72 := Tryd.underlying58
  a72 := Tryd.isAgg58
  z72 := Tryd.sizeOf58
  v72 := Tryd.zeroValue58
  t75 := Tryd.underlying39
  a75 := Tryd.isAgg39
  z75 := Tryd.sizeOf39
  v75 := Tryd.zeroValue39
  t76 := Tryd.underlying60
  a76 := Tryd.isAgg60
  z76 := Tryd.sizeOf60
  v76 := Tryd.zeroValue60
  t105 := Tryd.underlying69
  a105 := Tryd.isAgg69
  z105 := Tryd.sizeOf69
  v105 := Tryd.zeroValue69
  t107 := Tryd.underlying65
  a107 := Tryd.isAgg65
  z107 := Tryd.sizeOf65
  v107 := Tryd.zeroValue65
  t119 := Tryd.underlying83
  a119 := Tryd.isAgg83
  z119 := Tryd.sizeOf83
  t127 := Tryd.underlying68
  a127 := Tryd.isAgg68
  z127 := Tryd.sizeOf68
  v127 := Tryd.zeroValue68
  t138 := Tryd.underlying85
  a138 := Tryd.isAgg85
  z138 := Tryd.sizeOf85
  v138 := Tryd.zeroValue85
  t139 := Tryd.underlying86
  a139 := Tryd.isAgg86
  z139 := Tryd.sizeOf86
  v139 := Tryd.zeroValue86
  t160 := Tryd.underlying87
  a160 := Tryd.isAgg87
  z160 := Tryd.sizeOf87
  v160 := Tryd.zeroValue87
  t162 := Tryd.underlying82
  a162 := Tryd.isAgg82
  z162 := Tryd.sizeOf82
  v162 := Tryd.zeroValue82
  t164 := Tryd.underlying76
  a164 := Tryd.isAgg76
  z164 := Tryd.sizeOf76
  v164 := Tryd.zeroValue76
  t203 := Tryd.underlying80
  a203 := Tryd.isAgg80
  z203 := Tryd.sizeOf80
  v203 := Tryd.zeroValue80
  t206 := Tryd.underlying91
  a206 := Tryd.isAgg91
  z206 := Tryd.sizeOf91
  v206 := Tryd.zeroValue91
  t208 := Tryd.underlying93
  a208 := Tryd.isAgg93
  z208 := Tryd.sizeOf93
  v208 := Tryd.zeroValue93
  g3 := by kernel_rfl
  g4 := by kernel_rfl
  g13 := by kernel_rfl
def laysUpper_ren : Go.Shelf.Ren := ⟨fun | 158 => 22 | 165 => 28 | 166 => 29 | 167 => 30 | 169 => 31 | 230 => 32 | 203 => 34 | 240 => 38 | 241 => 39 | 197 => 40 | 118 => 41 | 168 => 42 | 270 => 43 | 262 => 44 | 276 => 45 | 277 => 46 | 260 => 47 | 242 => 48 | 313 => 49 | 278 => 50 | 274 => 51 | 275 => 52 | n => n, fun | 9 => 9 | 4 => 4 | 3 => 3 | 5 => 5 | 72 => 58 | 0 => 0 | 76 => 60 | 75 => 39 | 107 => 65 | 70 => 56 | 20 => 20 | 37 => 22 | 127 => 68 | 21 => 21 | 105 => 69 | 164 => 76 | 162 => 82 | 203 => 80 | 119 => 83 | 46 => 46 | 139 => 86 | 138 => 85 | 51 => 35 | 160 => 87 | 208 => 93 | 206 => 91 | 80 => 63 | n => n, fun | 13 => 1 | 3 => 3 | 4 => 4 | n => n⟩
theorem laysUpper : Go.Proofs.Lays.n158 Tryd.prog laysUpper_ren where
  mixed := by kernel_rfl
  f118 := Tryd.func41.trans (congrArg some (by kernel_rfl))
  f158 := Tryd.func22.trans (congrArg some (by kernel_rfl))
  f165 := Tryd.func28.trans (congrArg some (by kernel_rfl))
  f166 := Tryd.func29.trans (congrArg some (by kernel_rfl))
  f167 := Tryd.func30.trans (congrArg some (by kernel_rfl))
  f168 := Tryd.func42.trans (congrArg some (by kernel_rfl))
  f169 := Tryd.func31.trans (congrArg some (by kernel_rfl))
  f197 := Tryd.func40.trans (congrArg some (by kernel_rfl))
  f203 := Tryd.func34.trans (congrArg some (by kernel_rfl))
  f230 := Tryd.func32.trans (congrArg some (by kernel_rfl))
  f240 := Tryd.func38.trans (congrArg some (by kernel_rfl))
  f241 := Tryd.func39.trans (congrArg some (by kernel_rfl))
  f242 := Tryd.func48.trans (congrArg some (by kernel_rfl))
  f260 := Tryd.func47.trans (congrArg some (by kernel_rfl))
  f262 := Tryd.func44.trans (congrArg some (by kernel_rfl))
  f270 := Tryd.func43.trans (congrArg some (by kernel_rfl))
  f274 := Tryd.func51.trans (congrArg some (by kernel_rfl))
  f275 := Tryd.func52.trans (congrArg some (by kernel_rfl))
  f276 := Tryd.func45.trans (congrArg some (by kernel_rfl))
  f277 := Tryd.func46.trans (congrArg some (by kernel_rfl))
  f278 := Tryd.func50.trans (congrArg some (by kernel_rfl))
  f313 := Tryd.func49.trans (congrArg some (by kernel_rfl))
  t0 := Tryd.underlying0
  a0 := Tryd.isAgg0
  z0 := Tryd.sizeOf0
  v0 := Tryd.zeroValue0
  t3 := Tryd.underlying3
  a3 := Tryd.isAgg3
  z3 := Tryd.sizeOf3
  v3 := Tryd.zeroValue3
  t4 := Tryd.underlying4
  a4 := Tryd.isAgg4
  z4 := Tryd.sizeOf4
  v4 := Tryd.zeroValue4
  t5 := Tryd.underlying5
  a5 := Tryd.isAgg5
  z5 := Tryd.sizeOf5
  v5 := Tryd.zeroValue5
  t9 := Tryd.underlying9
  a9 := Tryd.isAgg9
  z9 := Tryd.sizeOf9
  v9 := Tryd.zeroValue9
  t20 := Tryd.underlying20
  a20 := Tryd.isAgg20
  z20 := Tryd.sizeOf20
  v20 := Tryd.zeroValue20
  t21 := Tryd.underlying21
  a21 := Tryd.isAgg21
  z21 := Tryd.sizeOf21
  v21 := Tryd.zeroValue21
  t37 := Tryd.underlying22
  a37 := Tryd.isAgg22
  z37 := Tryd.sizeOf22
  v37 := Tryd.zeroValue22
  t46 := Tryd.underlying46
  a46 := Tryd.isAgg46
  z46 := Tryd.sizeOf46
  v46 := Tryd.zeroValue46
  t51 := Tryd.underlying35
  a51 := Tryd.isAgg35
  z51 := Tryd.sizeOf35
  v51 := Tryd.zeroValue35
  t70 := Tryd.underlying56
  a70 := Tryd.isAgg56
  z70 := Tryd.sizeOf56
  v70 := Tryd.zeroValue56
  t72 := Tryd.underlying58
  a72 := Tryd.isAgg58
  z72 := Tryd.sizeOf58
  v72 := Tryd.zeroValue58
  t75 := Tryd.underlying39
  a75 := Tryd.isAgg39
  z75 := Tryd.sizeOf39
  v75 := Tryd.zeroValue39
  t76 := Tryd.underlying60
  a76 := Tryd.isAgg60
  z76 := Tryd.sizeOf60
  v76 := Tryd.zeroValue60
  t105 := Tryd.underlying69
  a105 := Tryd.isAgg69
  z105 := Tryd.sizeOf69
  v105 := Tryd.zeroValue69
  t107 := Tryd.underlying65
  a107 := Tryd.isAgg65
  z107 := Tryd.sizeOf65
  v107 := Tryd.zeroValue65
  t119 := Tryd.underlying83
  a119 := Tryd.isAgg83
  z119 := Tryd.sizeOf83
  t127 := Tryd.underlying68
  a127 := Tryd.isAgg68
  z127 := Tryd.sizeOf68
  v127 := Tryd.zeroValue68
  t138 := Tryd.underlying85
  a138 := Tryd.isAgg85
  z138 := Tryd.sizeOf85
  v138 := Tryd.zeroValue85
  t139 := Tryd.underlying86
  a139 := Tryd.isAgg86
  z139 := Tryd.sizeOf86
  v139 := Tryd.zeroValue86
  t160 := Tryd.underlying87
  a160 := Tryd.isAgg87
  z160 := Tryd.sizeOf87
  v160 := Tryd.zeroValue87
  t162 := Tryd.underlying82
  a162 := Tryd.isAgg82
  z162 := Tryd.sizeOf82
  v162 := Tryd.zeroValue82
  t164 := Tryd.underlying76
  a164 := Tryd.isAgg76
  z164 := Tryd.sizeOf76
  v164 := Tryd.zeroValue76
  t203 := Tryd.underlying80
  a203 := Tryd.isAgg80
  z203 := Tryd.sizeOf80
  v203 := Tryd.zeroValue80
  t206 := Tryd.underlying91
  a206 := Tryd.isAgg91
  z206 := Tryd.sizeOf91
  v206 := Tryd.zeroValue91
  t208 := Tryd.underlying93
  a208 := Tryd.isAgg93
  z208 := Tryd.sizeOf93
  v208 := Tryd.zeroValue93
  g3 := by kernel_rfl
  g4 := by kernel_rfl
  g13 := by kernel_rfl

theorem extraLower : Builder.Extra Tryd.prog laysLower_ren where
  sizeBuilder := by kernel_rfl
  liesBuilder := by kernel_rfl
  t5 := laysLower.t5
  a5 := laysLower.a5
  z5 := laysLower.z5
  v5 := laysLower.v5
  infoByte := by kernel_rfl
  cellsByte := by kernel_rfl
  sizeByte := by kernel_rfl
  neB5 := by decide
theorem extraUpper : Builder.Extra Tryd.prog laysUpper_ren where
  sizeBuilder := by kernel_rfl
  liesBuilder := by kernel_rfl
  t5 := laysUpper.t5
  a5 := laysUpper.a5
  z5 := laysUpper.z5
  v5 := laysUpper.v5
  infoByte := by kernel_rfl
  cellsByte := by kernel_rfl
  sizeByte := by kernel_rfl
  neB5 := by decide

def lowI (c : Int) : Int := if 65 ≤ c ∧ c ≤ 90 then c + 32 else c
def upI (c : Int) : Int := if 97 ≤ c ∧ c ≤ 122 then c - 32 else c
theorem ascii_of {s : ByteArray} (h : ∀ c ∈ bytesOf s, c < 128) : ∀ (j : Nat) (b : UInt8), s.data.toList[j]? = some b → b.toNat < 128 := fun j b hb => by
  have := h (b.toNat : Int) (List.mem_map.2 ⟨b, List.mem_of_getElem? hb, rfl⟩)
  omega
theorem case_str (f : UInt8 → UInt8) (g : Int → Int) (hfg : ∀ n : Fin 128, ((f (UInt8.ofNat n.val)).toNat : Int) = g (n.val : Int)) (s : ByteArray) (h : ∀ c ∈ bytesOf s, c < 128) :
    (⟨(s.data.toList.map f).toArray⟩ : ByteArray) = strOfNums ((bytesOf s).map g) := by
  unfold strOfNums bytesOf
  congr 2
  rw [List.map_map, List.map_map]
  refine List.map_congr_left fun b hb => ?_
  have hlt := h (b.toNat : Int) (List.mem_map.2 ⟨b, hb, rfl⟩)
  have hn := hfg ⟨b.toNat, by omega⟩
  simp only [UInt8.ofNat_toNat] at hn
  simp only [Function.comp_apply]
  rw [← hn, Int.toNat_natCast, UInt8.ofNat_toNat]
theorem lower_calls (s : ByteArray) (w : World) (hs : s.size ≤ 1000000) (h : ∀ c ∈ bytesOf s, c < 128) :
    Calls Tryd.prog 21 #[.string s] w fun e w' => e = .returned (.string (strOfNums ((bytesOf s).map lowI))) ∧ Below w.heap.size w w' := by
  have h1 := Any.strings_ToLower_ascii laysLower extraLower s w (by omega) (ascii_of h)
  rw [show Lib.toLowerA s.data.toList = s.data.toList.map Lib.lowerB from rfl, case_str Lib.lowerB lowI (by decide +kernel) s h] at h1
  exact h1
theorem upper_calls (s : ByteArray) (w : World) (hs : s.size ≤ 1000000) (h : ∀ c ∈ bytesOf s, c < 128) :
    Calls Tryd.prog 22 #[.string s] w fun e w' => e = .returned (.string (strOfNums ((bytesOf s).map upI))) ∧ Below w.heap.size w w' := by
  have h1 := Any.strings_ToUpper_ascii laysUpper extraUpper s w (by omega) (ascii_of h)
  rw [show Lib.toUpperA s.data.toList = s.data.toList.map Lib.upperB from rfl, case_str Lib.upperB upI (by decide +kernel) s h] at h1
  exact h1
end Go.Proofs.YthkijnfpllbdnaaDoor.Bec
