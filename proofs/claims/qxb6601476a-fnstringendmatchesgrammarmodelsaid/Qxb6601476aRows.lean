/-
  No cell of these rows narrows 'for every input' (looked for: loops, veiled, ifaces, maps, wideKeys, modest, calm, conditions, laid).
  DERIVED. THE GIVEN ROWS OF THIS SEAT. 3 by the template 'for every input the law returns true; each argument reads behind the call as it read before'; 0 by the template 'total and deterministic' (their statements: Qxb6601476aTotals.lean).
  GIVEN WITH THE SEED: the statements are not yours to turn. If you find one false, say at which input.
  Laid BY PROGRAM, IN A SANDBOX (cutbox-rows.mjs): the forced cells as the released guide's own fill.sh prints them over the translation 6822e612573df71f… (all of the seat's roots in one cut). By AI agents, Wed Nov 11 2026. No macro, syntax, notation, axiom, sorry.
-/
import Derived.Test.Qxb6601476aChecked
import GoSem.Claim
import GoSem.ClaimJoined
import GoSem.ClaimMapViews
import Derived.JoinedTies
import Derived.KernelRfl
namespace Go.Proofs.Qxb6601476a
/- THE CELL 'sum', in the pinned program and in every row, IS THE sha256 OF THE DUMP (.gsa) THAT Qxb6601476aProg.lean LOADS. Nothing in Lean hashes anything: it is a label: what it is worth is what the hold of that sum in a sandbox is worth. -/
noncomputable def Try.pinned : Pinned := { name := "qxb6601476a", sum := "6822e612573df71f5c80c338c2a45aa878698a869a7ff1c44dbb82cc99b5f440", checked := Try.checked }
namespace Rows
def none {H : Type} : Left H := { results := [], args := [] }

/-- 'zzlaws_tomlfile_b1.FnStringEndMatchesGrammarModel': WHATEVER THE INPUT: true; the input reads as it did. -/
def fnStringEndMatchesGrammarModelSpec : ChangeSpec := { name := "fnStringEndMatchesGrammarModel", fn := fun _ => fun
  | [d1, d2] => { results := [.lit (.bool true)], args := [d1, d2] }
  | _ => none }
def fnStringEndMatchesGrammarModelRow : OpenClaim := { program := "qxb6601476a", sum := "6822e612573df71f5c80c338c2a45aa878698a869a7ff1c44dbb82cc99b5f440", func := "example.com/vestline/vestline/zzlaws_tomlfile_b1.FnStringEndMatchesGrammarModel", spec := "fnStringEndMatchesGrammarModel", inPlace := ["internal/abi.NoEscape", "internal/bytealg.MakeNoZero"], apart := false }
def FnStringEndMatchesGrammarModelSaid : Prop := fnStringEndMatchesGrammarModelRow.holds Try.pinned (OpenSpec.ofChange fnStringEndMatchesGrammarModelSpec)

/-- ITS FALSE NEIGHBOUR: 'it returns false'. Refute it at one input. -/
def fnStringEndMatchesGrammarModelWrong : ChangeSpec := { name := "fnStringEndMatchesGrammarModel", fn := fun _ => fun
  | [d1, d2] => { results := [.lit (.bool false)], args := [d1, d2] }
  | _ => none }
def FnStringEndMatchesGrammarModelWrongFalsely : Prop := fnStringEndMatchesGrammarModelRow.holds Try.pinned (OpenSpec.ofChange fnStringEndMatchesGrammarModelWrong)

/-- 'zzlaws_tomlfile_b1.FnStringEndShiftInvariant': WHATEVER THE INPUT: true; the input reads as it did. -/
def fnStringEndShiftInvariantSpec : ChangeSpec := { name := "fnStringEndShiftInvariant", fn := fun _ => fun
  | [d1, d2, d3] => { results := [.lit (.bool true)], args := [d1, d2, d3] }
  | _ => none }
def fnStringEndShiftInvariantRow : OpenClaim := { program := "qxb6601476a", sum := "6822e612573df71f5c80c338c2a45aa878698a869a7ff1c44dbb82cc99b5f440", func := "example.com/vestline/vestline/zzlaws_tomlfile_b1.FnStringEndShiftInvariant", spec := "fnStringEndShiftInvariant", inPlace := ["internal/abi.NoEscape", "internal/bytealg.MakeNoZero"], apart := false }
def FnStringEndShiftInvariantSaid : Prop := fnStringEndShiftInvariantRow.holds Try.pinned (OpenSpec.ofChange fnStringEndShiftInvariantSpec)

/-- ITS FALSE NEIGHBOUR: 'it returns false'. Refute it at one input. -/
def fnStringEndShiftInvariantWrong : ChangeSpec := { name := "fnStringEndShiftInvariant", fn := fun _ => fun
  | [d1, d2, d3] => { results := [.lit (.bool false)], args := [d1, d2, d3] }
  | _ => none }
def FnStringEndShiftInvariantWrongFalsely : Prop := fnStringEndShiftInvariantRow.holds Try.pinned (OpenSpec.ofChange fnStringEndShiftInvariantWrong)

/-- 'zzlaws_tomlfile_b1.FnStringEndIsSelfContained': WHATEVER THE INPUT: true; the input reads as it did. -/
def fnStringEndIsSelfContainedSpec : ChangeSpec := { name := "fnStringEndIsSelfContained", fn := fun _ => fun
  | [d1, d2, d3] => { results := [.lit (.bool true)], args := [d1, d2, d3] }
  | _ => none }
def fnStringEndIsSelfContainedRow : OpenClaim := { program := "qxb6601476a", sum := "6822e612573df71f5c80c338c2a45aa878698a869a7ff1c44dbb82cc99b5f440", func := "example.com/vestline/vestline/zzlaws_tomlfile_b1.FnStringEndIsSelfContained", spec := "fnStringEndIsSelfContained", inPlace := ["internal/abi.NoEscape", "internal/bytealg.MakeNoZero"], apart := false }
def FnStringEndIsSelfContainedSaid : Prop := fnStringEndIsSelfContainedRow.holds Try.pinned (OpenSpec.ofChange fnStringEndIsSelfContainedSpec)

/-- ITS FALSE NEIGHBOUR: 'it returns false'. Refute it at one input. -/
def fnStringEndIsSelfContainedWrong : ChangeSpec := { name := "fnStringEndIsSelfContained", fn := fun _ => fun
  | [d1, d2, d3] => { results := [.lit (.bool false)], args := [d1, d2, d3] }
  | _ => none }
def FnStringEndIsSelfContainedWrongFalsely : Prop := fnStringEndIsSelfContainedRow.holds Try.pinned (OpenSpec.ofChange fnStringEndIsSelfContainedWrong)

end Rows
end Go.Proofs.Qxb6601476a
