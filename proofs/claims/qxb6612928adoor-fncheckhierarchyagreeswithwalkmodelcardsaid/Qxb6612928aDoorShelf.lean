/-
  The shelf's contract of strconv.Itoa at this seat's translation, in the plain words that the shelf's tool pastes (lay-shelf, lay-plain).
-/
import Derived.Shelf.LaysM
import Derived.Shelf.Strconv.Itoa3
import Derived.Test.Qxb6612928aDoorProg
namespace Go.Proofs
open Go.Shelf

def Tryd.laysM171_ren : Go.Shelf.Ren := ⟨fun | 171 => 13 | 243 => 14 | 246 => 15 | 283 => 16 | 284 => 17 | 285 => 18 | 286 => 19 | 129 => 21 | 317 => 20 | 318 => 22 | 319 => 23 | 320 => 24 | 337 => 25 | 338 => 26 | n => n, fun | 3 => 3 | 9 => 9 | 2 => 2 | 4 => 4 | 171 => 65 | 0 => 0 | 53 => 35 | 37 => 33 | 5 => 5 | 173 => 68 | 212 => 72 | 51 => 73 | 20 => 20 | 213 => 74 | 46 => 76 | 232 => 79 | 233 => 80 | n => n, fun | 17 => 0 | 18 => 1 | 19 => 2 | n => n⟩
theorem Tryd.laysM171 : Go.Proofs.LaysM.n171 Tryd.prog Tryd.laysM171_ren := {
  mixed := by kernel_rfl
  f129 := Tryd.func21.trans (congrArg some (by kernel_rfl))
  f171 := Tryd.func13.trans (congrArg some (by kernel_rfl))
  f243 := Tryd.func14.trans (congrArg some (by kernel_rfl))
  f246 := Tryd.func15.trans (congrArg some (by kernel_rfl))
  f283 := Tryd.func16.trans (congrArg some (by kernel_rfl))
  f284 := Tryd.func17.trans (congrArg some (by kernel_rfl))
  f285 := Tryd.func18.trans (congrArg some (by kernel_rfl))
  f286 := Tryd.func19.trans (congrArg some (by kernel_rfl))
  f317 := Tryd.func20.trans (congrArg some (by kernel_rfl))
  f318 := Tryd.func22.trans (congrArg some (by kernel_rfl))
  f319 := Tryd.func23.trans (congrArg some (by kernel_rfl))
  f320 := Tryd.func24.trans (congrArg some (by kernel_rfl))
  f337 := Tryd.func25.trans (congrArg some (by kernel_rfl))
  f338 := Tryd.func26.trans (congrArg some (by kernel_rfl))
  t0 := Tryd.underlying0
  a0 := Tryd.isAgg0
  z0 := Tryd.sizeOf0
  v0 := Tryd.zeroValue0
  t2 := Tryd.underlying2
  a2 := Tryd.isAgg2
  z2 := Tryd.sizeOf2
  v2 := Tryd.zeroValue2
  t3 := Tryd.underlying3
  a3 := Tryd.isAgg3
  z3 := Tryd.sizeOf3
  v3 := Tryd.zeroValue3
  t4 := Tryd.underlying4
  a4 := Tryd.isAgg4
  z4 := Tryd.sizeOf4
  v4 := Tryd.zeroValue4
  t5 := Tryd.underlying5
  a5 := Tryd.isAgg5
  z5 := Tryd.sizeOf5
  v5 := Tryd.zeroValue5
  t9 := Tryd.underlying9
  a9 := Tryd.isAgg9
  z9 := Tryd.sizeOf9
  v9 := Tryd.zeroValue9
  t20 := Tryd.underlying20
  a20 := Tryd.isAgg20
  z20 := Tryd.sizeOf20
  v20 := Tryd.zeroValue20
  t37 := Tryd.underlying33
  a37 := Tryd.isAgg33
  z37 := Tryd.sizeOf33
  v37 := Tryd.zeroValue33
  t46 := Tryd.underlying76
  a46 := Tryd.isAgg76
  z46 := Tryd.sizeOf76
  v46 := Tryd.zeroValue76
  t51 := Tryd.underlying73
  a51 := Tryd.isAgg73
  z51 := Tryd.sizeOf73
  v51 := Tryd.zeroValue73
  t53 := Tryd.underlying35
  a53 := Tryd.isAgg35
  z53 := Tryd.sizeOf35
  v53 := Tryd.zeroValue35
  t171 := Tryd.underlying65
  a171 := Tryd.isAgg65
  z171 := Tryd.sizeOf65
  v171 := Tryd.zeroValue65
  t173 := Tryd.underlying68
  a173 := Tryd.isAgg68
  z173 := Tryd.sizeOf68
  v173 := Tryd.zeroValue68
  t212 := Tryd.underlying72
  a212 := Tryd.isAgg72
  z212 := Tryd.sizeOf72
  v212 := Tryd.zeroValue72
  t213 := Tryd.underlying74
  a213 := Tryd.isAgg74
  z213 := Tryd.sizeOf74
  t232 := Tryd.underlying79
  a232 := Tryd.isAgg79
  z232 := Tryd.sizeOf79
  v232 := Tryd.zeroValue79
  t233 := Tryd.underlying80
  a233 := Tryd.isAgg80
  z233 := Tryd.sizeOf80
  v233 := Tryd.zeroValue80
  g17 := by kernel_rfl
  g18 := by kernel_rfl
  g19 := by kernel_rfl
  i0 := by kernel_rfl
  i2 := by kernel_rfl
  i3 := by kernel_rfl
  i4 := by kernel_rfl
  i5 := by kernel_rfl
  i9 := by kernel_rfl
  i20 := by kernel_rfl
  i37 := by kernel_rfl
  i46 := by kernel_rfl
  i51 := by kernel_rfl
  i53 := by kernel_rfl
  i171 := by kernel_rfl
  i173 := by kernel_rfl
  i212 := by kernel_rfl
  i232 := by kernel_rfl
  i233 := by kernel_rfl
  m17 := by kernel_rfl
  m18 := by kernel_rfl
  m19 := by kernel_rfl }

end Go.Proofs
