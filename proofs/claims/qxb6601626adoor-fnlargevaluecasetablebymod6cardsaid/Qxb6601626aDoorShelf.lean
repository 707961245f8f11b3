/-
  DERIVED: THE SHELF's CONTRACTS AT THIS DUMP, IN PLAIN WORDS (tools/lay-plain.mjs out of 'Qxb6601626aDoorShelf.lean', which tools/lay-shelf.mjs wrote): THE SAME DECLARATIONS UNDER THE SAME NAMES: 'import', 'namespace', 'open', 'def', 'theorem' AND NOTHING ELSE: no command of the shelf's: FOR A HAND-IN. Each laying: the table of numbers ('.._ren') and one theorem, a field a fact of the dump's own or the kernel's comparison; each contract: ONE APPLICATION.
-/
import Derived.Shelf.Small.Wraps
import Derived.Shelf.LaysM
import Derived.Shelf.Strconv.Itoa3
import Derived.Test.Qxb6601626aDoorProg
namespace Go.Proofs
open Go.Shelf
def Tryd.lays121_ren : Go.Shelf.Ren := ⟨fun | 121 => 15 | 214 => 17 | n => n, fun | 4 => 4 | 9 => 9 | n => n, fun | n => n⟩
theorem Tryd.lays121 : Go.Proofs.Lays.n121 Tryd.prog Tryd.lays121_ren := {
  mixed := by kernel_rfl
  f121 := Tryd.func15.trans (congrArg some (by kernel_rfl))
  f214 := Tryd.func17.trans (congrArg some (by kernel_rfl))
  t4 := Tryd.underlying4
  a4 := Tryd.isAgg4
  z4 := Tryd.sizeOf4
  v4 := Tryd.zeroValue4
  t9 := Tryd.underlying9
  a9 := Tryd.isAgg9
  z9 := Tryd.sizeOf9
  v9 := Tryd.zeroValue9 }
open Go.RowKit in
/-- strconv.FormatBool: "FormatBool returns "true" or "false" according to the value of b.": IT RETURNS 'Lib.formatBool b'; the world is as it was. (LAID: no walk: one application.) -/
theorem Tryd.strconv_FormatBool (b : Bool) (w : World) :
    Calls Tryd.prog 15 #[.bool b] w fun e w' => e = .returned (.string ⟨(Lib.formatBool b).toArray⟩) ∧ w' = w := Any.strconv_FormatBool Tryd.lays121 b w
def Tryd.laysM171_ren : Go.Shelf.Ren := ⟨fun | 171 => 14 | 243 => 16 | 246 => 18 | 283 => 19 | 284 => 20 | 285 => 21 | 286 => 22 | 129 => 24 | 317 => 23 | 318 => 25 | 319 => 26 | 320 => 27 | 337 => 28 | 338 => 29 | n => n, fun | 3 => 3 | 9 => 9 | 2 => 2 | 4 => 4 | 171 => 34 | 0 => 0 | 53 => 27 | 37 => 37 | 5 => 5 | 173 => 38 | 212 => 42 | 51 => 43 | 20 => 20 | 213 => 44 | 46 => 45 | 232 => 48 | 233 => 49 | n => n, fun | 17 => 0 | 18 => 1 | 19 => 2 | n => n⟩
theorem Tryd.laysM171 : Go.Proofs.LaysM.n171 Tryd.prog Tryd.laysM171_ren := {
  mixed := by kernel_rfl
  f129 := Tryd.func24.trans (congrArg some (by kernel_rfl))
  f171 := Tryd.func14.trans (congrArg some (by kernel_rfl))
  f243 := Tryd.func16.trans (congrArg some (by kernel_rfl))
  f246 := Tryd.func18.trans (congrArg some (by kernel_rfl))
  f283 := Tryd.func19.trans (congrArg some (by kernel_rfl))
  f284 := Tryd.func20.trans (congrArg some (by kernel_rfl))
  f285 := Tryd.func21.trans (congrArg some (by kernel_rfl))
  f286 := Tryd.func22.trans (congrArg some (by kernel_rfl))
  f317 := Tryd.func23.trans (congrArg some (by kernel_rfl))
  f318 := Tryd.func25.trans (congrArg some (by kernel_rfl))
  f319 := Tryd.func26.trans (congrArg some (by kernel_rfl))
  f320 := Tryd.func27.trans (congrArg some (by kernel_rfl))
  f337 := Tryd.func28.trans (congrArg some (by kernel_rfl))
  f338 := Tryd.func29.trans (congrArg some (by kernel_rfl))
  t0 := Tryd.underlying0
  a0 := Tryd.isAgg0
  z0 := Tryd.sizeOf0
  v0 := Tryd.zeroValue0
  t2 := Tryd.underlying2
  a2 := Tryd.isAgg2
  z2 := Tryd.sizeOf2
  v2 := Tryd.zeroValue2
  t3 := Tryd.underlying3
  a3 := Tryd.isAgg3
  z3 := Tryd.sizeOf3
  v3 := Tryd.zeroValue3
  t4 := Tryd.underlying4
  a4 := Tryd.isAgg4
  z4 := Tryd.sizeOf4
  v4 := Tryd.zeroValue4
  t5 := Tryd.underlying5
  a5 := Tryd.isAgg5
  z5 := Tryd.sizeOf5
  v5 := Tryd.zeroValue5
  t9 := Tryd.underlying9
  a9 := Tryd.isAgg9
  z9 := Tryd.sizeOf9
  v9 := Tryd.zeroValue9
  t20 := Tryd.underlying20
  a20 := Tryd.isAgg20
  z20 := Tryd.sizeOf20
  v20 := Tryd.zeroValue20
  t37 := Tryd.underlying37
  a37 := Tryd.isAgg37
  z37 := Tryd.sizeOf37
  v37 := Tryd.zeroValue37
  t46 := Tryd.underlying45
  a46 := Tryd.isAgg45
  z46 := Tryd.sizeOf45
  v46 := Tryd.zeroValue45
  t51 := Tryd.underlying43
  a51 := Tryd.isAgg43
  z51 := Tryd.sizeOf43
  v51 := Tryd.zeroValue43
  t53 := Tryd.underlying27
  a53 := Tryd.isAgg27
  z53 := Tryd.sizeOf27
  v53 := Tryd.zeroValue27
  t171 := Tryd.underlying34
  a171 := Tryd.isAgg34
  z171 := Tryd.sizeOf34
  v171 := Tryd.zeroValue34
  t173 := Tryd.underlying38
  a173 := Tryd.isAgg38
  z173 := Tryd.sizeOf38
  v173 := Tryd.zeroValue38
  t212 := Tryd.underlying42
  a212 := Tryd.isAgg42
  z212 := Tryd.sizeOf42
  v212 := Tryd.zeroValue42
  t213 := Tryd.underlying44
  a213 := Tryd.isAgg44
  z213 := Tryd.sizeOf44
  t232 := Tryd.underlying48
  a232 := Tryd.isAgg48
  z232 := Tryd.sizeOf48
  v232 := Tryd.zeroValue48
  t233 := Tryd.underlying49
  a233 := Tryd.isAgg49
  z233 := Tryd.sizeOf49
  v233 := Tryd.zeroValue49
  g17 := by kernel_rfl
  g18 := by kernel_rfl
  g19 := by kernel_rfl
  i0 := by kernel_rfl
  i2 := by kernel_rfl
  i3 := by kernel_rfl
  i4 := by kernel_rfl
  i5 := by kernel_rfl
  i9 := by kernel_rfl
  i20 := by kernel_rfl
  i37 := by kernel_rfl
  i46 := by kernel_rfl
  i51 := by kernel_rfl
  i53 := by kernel_rfl
  i171 := by kernel_rfl
  i173 := by kernel_rfl
  i212 := by kernel_rfl
  i232 := by kernel_rfl
  i233 := by kernel_rfl
  m17 := by kernel_rfl
  m18 := by kernel_rfl
  m19 := by kernel_rfl }
end Go.Proofs
