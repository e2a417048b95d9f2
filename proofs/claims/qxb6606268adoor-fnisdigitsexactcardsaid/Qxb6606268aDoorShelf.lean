/-
  The library's contracts that this seat uses, laid at this dump (plain text, written by the guide's tool).
-/
import Derived.Test.Qxb6606268aDoorProg
import Derived.Shelf.Strings.SlTrimAscii
namespace Go.Proofs
open Go.Shelf
def Tryd.lays160_ren : Go.Shelf.Ren := ⟨fun | 160 => 15 | 232 => 25 | 231 => 24 | 227 => 26 | 234 => 28 | 233 => 27 | 236 => 30 | 235 => 29 | 228 => 36 | 271 => 39 | 151 => 38 | 197 => 37 | 120 => 47 | 152 => 46 | 260 => 45 | 137 => 49 | 119 => 50 | 224 => 51 | 225 => 52 | 217 => 53 | 266 => 54 | n => n, fun | 9 => 9 | 4 => 4 | 3 => 3 | 5 => 5 | 117 => 56 | 116 => 55 | 0 => 0 | 124 => 59 | 21 => 21 | 105 => 71 | 46 => 60 | 119 => 84 | 139 => 87 | 138 => 86 | n => n, fun | 3 => 1 | 4 => 2 | n => n⟩
theorem Tryd.lays160 : Go.Proofs.Lays.n160 Tryd.prog Tryd.lays160_ren := {
  mixed := by kernel_rfl
  f119 := Tryd.func50.trans (congrArg some (by kernel_rfl))
  f120 := Tryd.func47.trans (congrArg some (by kernel_rfl))
  f137 := Tryd.func49.trans (congrArg some (by kernel_rfl))
  f151 := Tryd.func38.trans (congrArg some (by kernel_rfl))
  f152 := Tryd.func46.trans (congrArg some (by kernel_rfl))
  f160 := Tryd.func15.trans (congrArg some (by kernel_rfl))
  f197 := Tryd.func37.trans (congrArg some (by kernel_rfl))
  f217 := Tryd.func53.trans (congrArg some (by kernel_rfl))
  f224 := Tryd.func51.trans (congrArg some (by kernel_rfl))
  f225 := Tryd.func52.trans (congrArg some (by kernel_rfl))
  f227 := Tryd.func26.trans (congrArg some (by kernel_rfl))
  f228 := Tryd.func36.trans (congrArg some (by kernel_rfl))
  f231 := Tryd.func24.trans (congrArg some (by kernel_rfl))
  f232 := Tryd.func25.trans (congrArg some (by kernel_rfl))
  f233 := Tryd.func27.trans (congrArg some (by kernel_rfl))
  f234 := Tryd.func28.trans (congrArg some (by kernel_rfl))
  f235 := Tryd.func29.trans (congrArg some (by kernel_rfl))
  f236 := Tryd.func30.trans (congrArg some (by kernel_rfl))
  f260 := Tryd.func45.trans (congrArg some (by kernel_rfl))
  f266 := Tryd.func54.trans (congrArg some (by kernel_rfl))
  f271 := Tryd.func39.trans (congrArg some (by kernel_rfl))
  t0 := Tryd.underlying0
  a0 := Tryd.isAgg0
  z0 := Tryd.sizeOf0
  v0 := Tryd.zeroValue0
  t3 := Tryd.underlying3
  a3 := Tryd.isAgg3
  z3 := Tryd.sizeOf3
  v3 := Tryd.zeroValue3
  t4 := Tryd.underlying4
  a4 := Tryd.isAgg4
  z4 := Tryd.sizeOf4
  v4 := Tryd.zeroValue4
  t5 := Tryd.underlying5
  a5 := Tryd.isAgg5
  z5 := Tryd.sizeOf5
  v5 := Tryd.zeroValue5
  t9 := Tryd.underlying9
  a9 := Tryd.isAgg9
  z9 := Tryd.sizeOf9
  v9 := Tryd.zeroValue9
  t21 := Tryd.underlying21
  a21 := Tryd.isAgg21
  z21 := Tryd.sizeOf21
  v21 := Tryd.zeroValue21
  t46 := Tryd.underlying60
  a46 := Tryd.isAgg60
  z46 := Tryd.sizeOf60
  v46 := Tryd.zeroValue60
  t105 := Tryd.underlying71
  a105 := Tryd.isAgg71
  z105 := Tryd.sizeOf71
  v105 := Tryd.zeroValue71
  t116 := Tryd.underlying55
  a116 := Tryd.isAgg55
  z116 := Tryd.sizeOf55
  t117 := Tryd.underlying56
  a117 := Tryd.isAgg56
  z117 := Tryd.sizeOf56
  v117 := Tryd.zeroValue56
  t119 := Tryd.underlying84
  a119 := Tryd.isAgg84
  z119 := Tryd.sizeOf84
  t124 := Tryd.underlying59
  a124 := Tryd.isAgg59
  z124 := Tryd.sizeOf59
  v124 := Tryd.zeroValue59
  t138 := Tryd.underlying86
  a138 := Tryd.isAgg86
  z138 := Tryd.sizeOf86
  v138 := Tryd.zeroValue86
  t139 := Tryd.underlying87
  a139 := Tryd.isAgg87
  z139 := Tryd.sizeOf87
  v139 := Tryd.zeroValue87
  g3 := by kernel_rfl
  g4 := by kernel_rfl }
end Go.Proofs
