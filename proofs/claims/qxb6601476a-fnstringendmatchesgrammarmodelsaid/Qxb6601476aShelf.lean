/-
  DERIVED: THE SHELF's CONTRACTS AT THIS DUMP, IN PLAIN WORDS (tools/lay-plain.mjs out of 'Qxb6601476aShelf.lean', which tools/lay-shelf.mjs wrote): THE SAME DECLARATIONS UNDER THE SAME NAMES: 'import', 'namespace', 'open', 'def', 'theorem' AND NOTHING ELSE: no command of the shelf's: FOR A HAND-IN. Each laying: the table of numbers ('.._ren') and one theorem, a field a fact of the dump's own or the kernel's comparison; each contract: ONE APPLICATION.
-/
import Derived.Shelf.Strings.Prefix
import Derived.Shelf.Strings.Repeat
import Derived.Test.Qxb6601476aProg
namespace Go.Proofs
open Go.Shelf
def Try.lays99_ren : Go.Shelf.Ren := ⟨fun | 99 => 15 | 206 => 21 | n => n, fun | 9 => 9 | 4 => 4 | 3 => 3 | n => n, fun | n => n⟩
theorem Try.lays99 : Go.Proofs.Lays.n99 Try.prog Try.lays99_ren := {
  mixed := by kernel_rfl
  f99 := Try.func15.trans (congrArg some (by kernel_rfl))
  f206 := Try.func21.trans (congrArg some (by kernel_rfl))
  t3 := Try.underlying3
  a3 := Try.isAgg3
  z3 := Try.sizeOf3
  v3 := Try.zeroValue3
  t4 := Try.underlying4
  a4 := Try.isAgg4
  z4 := Try.sizeOf4
  v4 := Try.zeroValue4
  t9 := Try.underlying9
  a9 := Try.isAgg9
  z9 := Try.sizeOf9
  v9 := Try.zeroValue9 }
open Go.RowKit Go.Lib in
/-- strings.HasPrefix: "HasPrefix reports whether the string s begins with prefix.": IT RETURNS 'Lib.hasPrefix s prefix'; the world is as it was. (LAID: no walk: one application.) -/
theorem Try.strings_HasPrefix (s p : ByteArray) (w : World) :
    Calls Try.prog 15 #[.string s, .string p] w fun e w' => e = .returned (.bool (Lib.hasPrefix s.data.toList p.data.toList)) ∧ w' = w := Any.strings_HasPrefix Try.lays99 s p w
def Try.lays105_ren : Go.Shelf.Ren := ⟨fun | 105 => 14 | 212 => 16 | 99 => 15 | 165 => 17 | 166 => 18 | 170 => 19 | 169 => 20 | 263 => 22 | 264 => 23 | 206 => 21 | 240 => 24 | 241 => 25 | 276 => 26 | 277 => 27 | n => n, fun | 9 => 9 | 3 => 3 | 4 => 4 | 20 => 20 | 0 => 0 | 46 => 29 | 109 => 30 | 5 => 5 | 72 => 35 | 76 => 39 | 51 => 43 | 146 => 44 | 53 => 46 | 148 => 47 | 70 => 32 | 37 => 33 | 75 => 38 | 127 => 49 | 164 => 50 | 80 => 42 | n => n, fun | n => n⟩
theorem Try.lays105 : Go.Proofs.Lays.n105 Try.prog Try.lays105_ren := {
  mixed := by kernel_rfl
  f99 := Try.func15.trans (congrArg some (by kernel_rfl))
  f105 := Try.func14.trans (congrArg some (by kernel_rfl))
  f165 := Try.func17.trans (congrArg some (by kernel_rfl))
  f166 := Try.func18.trans (congrArg some (by kernel_rfl))
  f169 := Try.func20.trans (congrArg some (by kernel_rfl))
  f170 := Try.func19.trans (congrArg some (by kernel_rfl))
  f206 := Try.func21.trans (congrArg some (by kernel_rfl))
  f212 := Try.func16.trans (congrArg some (by kernel_rfl))
  f240 := Try.func24.trans (congrArg some (by kernel_rfl))
  f241 := Try.func25.trans (congrArg some (by kernel_rfl))
  f263 := Try.func22.trans (congrArg some (by kernel_rfl))
  f264 := Try.func23.trans (congrArg some (by kernel_rfl))
  f276 := Try.func26.trans (congrArg some (by kernel_rfl))
  f277 := Try.func27.trans (congrArg some (by kernel_rfl))
  t0 := Try.underlying0
  a0 := Try.isAgg0
  z0 := Try.sizeOf0
  v0 := Try.zeroValue0
  t3 := Try.underlying3
  a3 := Try.isAgg3
  z3 := Try.sizeOf3
  v3 := Try.zeroValue3
  t4 := Try.underlying4
  a4 := Try.isAgg4
  z4 := Try.sizeOf4
  v4 := Try.zeroValue4
  t5 := Try.underlying5
  a5 := Try.isAgg5
  z5 := Try.sizeOf5
  v5 := Try.zeroValue5
  t9 := Try.underlying9
  a9 := Try.isAgg9
  z9 := Try.sizeOf9
  v9 := Try.zeroValue9
  t20 := Try.underlying20
  a20 := Try.isAgg20
  z20 := Try.sizeOf20
  v20 := Try.zeroValue20
  t37 := Try.underlying33
  a37 := Try.isAgg33
  z37 := Try.sizeOf33
  v37 := Try.zeroValue33
  t46 := Try.underlying29
  a46 := Try.isAgg29
  z46 := Try.sizeOf29
  v46 := Try.zeroValue29
  t51 := Try.underlying43
  a51 := Try.isAgg43
  z51 := Try.sizeOf43
  v51 := Try.zeroValue43
  t53 := Try.underlying46
  a53 := Try.isAgg46
  z53 := Try.sizeOf46
  v53 := Try.zeroValue46
  t70 := Try.underlying32
  a70 := Try.isAgg32
  z70 := Try.sizeOf32
  v70 := Try.zeroValue32
  t72 := Try.underlying35
  a72 := Try.isAgg35
  z72 := Try.sizeOf35
  v72 := Try.zeroValue35
  t75 := Try.underlying38
  a75 := Try.isAgg38
  z75 := Try.sizeOf38
  v75 := Try.zeroValue38
  t76 := Try.underlying39
  a76 := Try.isAgg39
  z76 := Try.sizeOf39
  v76 := Try.zeroValue39
  t109 := Try.underlying30
  a109 := Try.isAgg30
  z109 := Try.sizeOf30
  v109 := Try.zeroValue30
  t127 := Try.underlying49
  a127 := Try.isAgg49
  z127 := Try.sizeOf49
  v127 := Try.zeroValue49
  t146 := Try.underlying44
  a146 := Try.isAgg44
  z146 := Try.sizeOf44
  v146 := Try.zeroValue44
  t148 := Try.underlying47
  a148 := Try.isAgg47
  z148 := Try.sizeOf47
  v148 := Try.zeroValue47
  t164 := Try.underlying50
  a164 := Try.isAgg50
  z164 := Try.sizeOf50
  v164 := Try.zeroValue50 }
theorem Try.Builder_Extra_105 : Builder.Extra Try.prog Try.lays105_ren := {
  sizeBuilder := by kernel_rfl
  liesBuilder := by kernel_rfl
  t5 := Try.underlying5
  a5 := Try.isAgg5
  z5 := Try.sizeOf5
  v5 := Try.zeroValue5
  infoByte := by kernel_rfl
  cellsByte := by kernel_rfl
  sizeByte := by kernel_rfl
  neB5 := by decide }
open Go.RowKit Go.Lib in
/-- THE MAIN CASE: at least two copies of a string that is not empty. (LAID: no walk: one application.) -/
theorem Try.strings_Repeat_main (s : ByteArray) (c : Nat) (w : World) (hc2 : 2 ≤ c) (hc : c ≤ 9223372036854775807) (hlen : s.size * c ≤ 140737488355328) (h0 : 0 < s.size) :
    Calls Try.prog 14 #[.string s, .int .i64 c] w fun e w' => e = .returned (.string ⟨(Lib.repeatL s.data.toList c).toArray⟩) ∧ Below w.heap.size w w' := Any.strings_Repeat_main Try.lays105 Try.Builder_Extra_105 s c w hc2 hc hlen h0
end Go.Proofs
