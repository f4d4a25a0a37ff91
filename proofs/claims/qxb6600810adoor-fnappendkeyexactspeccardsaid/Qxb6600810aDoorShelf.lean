/-
  DERIVED: THE SHELF's CONTRACTS AT THIS DUMP, IN PLAIN WORDS (tools/lay-plain.mjs out of 'Qxb6600810aDoorShelf.lean', which tools/lay-shelf.mjs wrote): THE SAME DECLARATIONS UNDER THE SAME NAMES: 'import', 'namespace', 'open', 'def', 'theorem' AND NOTHING ELSE: no command of the shelf's: FOR A HAND-IN. Each laying: the table of numbers ('.._ren') and one theorem, a field a fact of the dump's own or the kernel's comparison; each contract: ONE APPLICATION.
-/
import Derived.Shelf.LaysM
import Derived.Shelf.Strconv.AppendIntPublic10
import Derived.Test.Qxb6600810aDoorProg
namespace Go.Proofs
open Go.Shelf
def Tryd.laysM288_ren : Go.Shelf.Ren := ⟨fun | 288 => 38 | 283 => 48 | 284 => 49 | 285 => 50 | 286 => 51 | 129 => 59 | 317 => 58 | 318 => 60 | 319 => 61 | 320 => 62 | 337 => 65 | 338 => 66 | n => n, fun | 37 => 22 | 53 => 26 | 3 => 3 | 4 => 4 | 9 => 9 | 171 => 67 | 0 => 0 | 173 => 70 | 212 => 84 | 51 => 62 | 5 => 5 | 20 => 20 | 213 => 85 | 46 => 58 | 232 => 93 | 233 => 94 | n => n, fun | 17 => 3 | 18 => 6 | 19 => 7 | n => n⟩
theorem Tryd.laysM288 : Go.Proofs.LaysM.n288 Tryd.prog Tryd.laysM288_ren := {
  mixed := by kernel_rfl
  f129 := Tryd.func59.trans (congrArg some (by kernel_rfl))
  f283 := Tryd.func48.trans (congrArg some (by kernel_rfl))
  f284 := Tryd.func49.trans (congrArg some (by kernel_rfl))
  f285 := Tryd.func50.trans (congrArg some (by kernel_rfl))
  f286 := Tryd.func51.trans (congrArg some (by kernel_rfl))
  f288 := Tryd.func38.trans (congrArg some (by kernel_rfl))
  f317 := Tryd.func58.trans (congrArg some (by kernel_rfl))
  f318 := Tryd.func60.trans (congrArg some (by kernel_rfl))
  f319 := Tryd.func61.trans (congrArg some (by kernel_rfl))
  f320 := Tryd.func62.trans (congrArg some (by kernel_rfl))
  f337 := Tryd.func65.trans (congrArg some (by kernel_rfl))
  f338 := Tryd.func66.trans (congrArg some (by kernel_rfl))
  t0 := Tryd.underlying0
  a0 := Tryd.isAgg0
  z0 := Tryd.sizeOf0
  v0 := Tryd.zeroValue0
  t3 := Tryd.underlying3
  a3 := Tryd.isAgg3
  z3 := Tryd.sizeOf3
  v3 := Tryd.zeroValue3
  t4 := Tryd.underlying4
  a4 := Tryd.isAgg4
  z4 := Tryd.sizeOf4
  v4 := Tryd.zeroValue4
  t5 := Tryd.underlying5
  a5 := Tryd.isAgg5
  z5 := Tryd.sizeOf5
  v5 := Tryd.zeroValue5
  t9 := Tryd.underlying9
  a9 := Tryd.isAgg9
  z9 := Tryd.sizeOf9
  v9 := Tryd.zeroValue9
  t20 := Tryd.underlying20
  a20 := Tryd.isAgg20
  z20 := Tryd.sizeOf20
  v20 := Tryd.zeroValue20
  t37 := Tryd.underlying22
  a37 := Tryd.isAgg22
  z37 := Tryd.sizeOf22
  v37 := Tryd.zeroValue22
  t46 := Tryd.underlying58
  a46 := Tryd.isAgg58
  z46 := Tryd.sizeOf58
  v46 := Tryd.zeroValue58
  t51 := Tryd.underlying62
  a51 := Tryd.isAgg62
  z51 := Tryd.sizeOf62
  v51 := Tryd.zeroValue62
  t53 := Tryd.underlying26
  a53 := Tryd.isAgg26
  z53 := Tryd.sizeOf26
  v53 := Tryd.zeroValue26
  t171 := Tryd.underlying67
  a171 := Tryd.isAgg67
  z171 := Tryd.sizeOf67
  v171 := Tryd.zeroValue67
  t173 := Tryd.underlying70
  a173 := Tryd.isAgg70
  z173 := Tryd.sizeOf70
  v173 := Tryd.zeroValue70
  t212 := Tryd.underlying84
  a212 := Tryd.isAgg84
  z212 := Tryd.sizeOf84
  v212 := Tryd.zeroValue84
  t213 := Tryd.underlying85
  a213 := Tryd.isAgg85
  z213 := Tryd.sizeOf85
  t232 := Tryd.underlying93
  a232 := Tryd.isAgg93
  z232 := Tryd.sizeOf93
  v232 := Tryd.zeroValue93
  t233 := Tryd.underlying94
  a233 := Tryd.isAgg94
  z233 := Tryd.sizeOf94
  v233 := Tryd.zeroValue94
  g17 := by kernel_rfl
  g18 := by kernel_rfl
  g19 := by kernel_rfl
  i0 := by kernel_rfl
  i3 := by kernel_rfl
  i4 := by kernel_rfl
  i5 := by kernel_rfl
  i9 := by kernel_rfl
  i20 := by kernel_rfl
  i37 := by kernel_rfl
  i46 := by kernel_rfl
  i51 := by kernel_rfl
  i53 := by kernel_rfl
  i171 := by kernel_rfl
  i173 := by kernel_rfl
  i212 := by kernel_rfl
  i232 := by kernel_rfl
  i233 := by kernel_rfl
  m17 := by kernel_rfl
  m18 := by kernel_rfl
  m19 := by kernel_rfl }
end Go.Proofs
