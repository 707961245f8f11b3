/-
  DERIVED. GIVEN WITH THE SEED: THE CARDS: each row of Qxb6601626aDoorRows.lean that lists a variable, with what it lists TIED to the program's text (the seventh form; the later family's looks); each row that meets fmt, with fmt's text TOLD by the authors' own Lean function (tested against real Go, not proved from fmt's source: count such statements apart). THE CARD IS WHAT COUNTS. Prove the row's statement (the work); the ties are given (Qxb6601626aDoorTie.lean); close each card by the builder's one call (the guide's Derived/Test/ToyasCard.lean, 'card_holds'). Laid BY PROGRAM, IN A SANDBOX (cutbox-door.mjs). By AI agents, Wed Nov 11 2026. No macro, syntax, notation, axiom, sorry.
-/
import Derived.Test.Qxb6601626aDoorRows
import GoSem.ClaimSeven
namespace Go.Proofs.Qxb6601626aDoor
namespace Rows

/-- THE TIED CARD OF 'zzlaws_internal_bench_b1.FnLargeValueCaseTableByMod6'. -/
def fnLargeValueCaseTableByMod6Card : Claim7 := { stood := { row := fnLargeValueCaseTableByMod6Row, standIns := [], harness := (true, "6b7dddc96726f45cb2cbb6f905e52e0fcdc31c07785702222cc29c8c9deee8ff"), looks := false }, kinds := [], alts := [], laidByText := true, laidKinds := [.data, .data, .data], laidTests := true, laidLooks := .later }
def FnLargeValueCaseTableByMod6CardSaid : Prop := Claim7.holds Tryd.pinned (.plain (OpenSpec.ofChange fnLargeValueCaseTableByMod6Spec)) fnLargeValueCaseTableByMod6Card

/-- THE TIED CARD OF 'zzlaws_internal_bench_b1.FnLargeValueInjectiveOffBools'. -/
def fnLargeValueInjectiveOffBoolsCard : Claim7 := { stood := { row := fnLargeValueInjectiveOffBoolsRow, standIns := [], harness := (true, "6b7dddc96726f45cb2cbb6f905e52e0fcdc31c07785702222cc29c8c9deee8ff"), looks := false }, kinds := [], alts := [], laidByText := true, laidKinds := [.data, .data, .data], laidTests := true, laidLooks := .later }
def FnLargeValueInjectiveOffBoolsCardSaid : Prop := Claim7.holds Tryd.pinned (.plain (OpenSpec.ofChange fnLargeValueInjectiveOffBoolsSpec)) fnLargeValueInjectiveOffBoolsCard

/-- THE TIED CARD OF 'zzlaws_internal_bench_b1.FnSchemaOverrideInjectiveOffFalse'. -/
def fnSchemaOverrideInjectiveOffFalseCard : Claim7 := { stood := { row := fnSchemaOverrideInjectiveOffFalseRow, standIns := [], harness := (true, "6b7dddc96726f45cb2cbb6f905e52e0fcdc31c07785702222cc29c8c9deee8ff"), looks := false }, kinds := [], alts := [], laidByText := true, laidKinds := [.data, .data, .data], laidTests := true, laidLooks := .later }
def FnSchemaOverrideInjectiveOffFalseCardSaid : Prop := Claim7.holds Tryd.pinned (.plain (OpenSpec.ofChange fnSchemaOverrideInjectiveOffFalseSpec)) fnSchemaOverrideInjectiveOffFalseCard
end Rows
end Go.Proofs.Qxb6601626aDoor
