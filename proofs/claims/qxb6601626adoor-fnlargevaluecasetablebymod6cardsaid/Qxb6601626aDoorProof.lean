/-
  Seat b6601626aD. The row of FnLargeValueCaseTableByMod6, and its tied card: 'Rows.FnLargeValueCaseTableByMod6CardSaid'.
-/
import Derived.Test.Qxb6601626aDoorWalk
import Derived.Test.Qxb6601626aDoorTie
import Derived.Test.Qxb6601626aDoorCards
import Derived.ProofKit
import Derived.LaidMore
import Derived.Stop.Joined
import Derived.Stop.LaidErr
import Derived.Lib.LaidTab
import Derived.SevenTiedAt
namespace Go.Proofs.Qxb6601626aDoor.fnMod6
open Go.ChangeShapes Go.WideShapes Go.ChangeAt Go.RowKit

theorem own : ownKnob Tryd.prog.godebug = none := by kernel_rfl
theorem gPow : Tryd.prog.globalNamed pow10Name = some 0 := by kernel_rfl
theorem tPow : (Tryd.prog.globals[0]?).map (·.type) = some 42 := by kernel_rfl
theorem cells27 : Tryd.prog.cellsOf 27 = 1 := by kernel_rfl
theorem cells42 : Tryd.prog.cellsOf 42 = 20 := by kernel_rfl

theorem int_bounds {n : Int} (h : (Lit.int .i64 n).wf = true) : -9223372036854775808 ≤ n ∧ n ≤ 9223372036854775807 := by
  have h1 : decide (IntKind.min .i64 ≤ n) && decide (n ≤ IntKind.max .i64) := h
  have e1 : IntKind.min .i64 = -9223372036854775808 := by decide
  have e2 : IntKind.max .i64 = 9223372036854775807 := by decide
  rw [e1, e2] at h1
  simpa using h1

/-- The row's own list of tables. -/
def tabs : List (String × DataW Unit) := Rows.fnLargeValueCaseTableByMod6Row.laid

/-- The condition gives the table of powers of ten. -/
theorem tab_of {W : World} (h : laidMetH Tryd.prog tabs W) : Lib.TabIs Tryd.prog W pow10Name .u64 Lib.pow10Tab := by
  rw [MakeChecks.laidMetH_plain _ _ _ (by kernel_rfl)] at h
  have h2 : laidMet Tryd.prog [(pow10Name, Lib.tabData .u64 Lib.pow10Tab)] W := (laidMet.tail (laidMet.tail h))
  exact Lib.tabIs_of_head gPow tPow Tryd.underlying42 Tryd.underlying27 cells27 cells42 h2

/-- The door's own heap meets the condition. -/
theorem door_met (os : Os) (args : Array Value) : laidMetH Tryd.prog tabs ((World.doorLaid Tryd.prog 24 os).forCall (fun _ _ => 0) ⟨#[], args, []⟩).memory :=
  laidMetH_of_parts3 (fuel := 8) (laidMet_of_run' 8 (by kernel_rfl) (by kernel_rfl)) (by kernel_rfl) (by kernel_rfl)

set_option maxRecDepth 100000 in
theorem lifted (os : Os) (started : os.Started) (H : Type) (enc : TypeId × Value → H) :
    ReturnsInHanded {} Tryd.checked os 3 .any (fun w args => (Rows.fnLargeValueCaseTableByMod6Spec.pre enc Tryd.prog Tryd.f3 [] false w args ∧ laidMetH Tryd.prog tabs w) ∧ sizedMet enc Tryd.prog Tryd.f3 (OpenSpec.ofChange Rows.fnLargeValueCaseTableByMod6Spec) false w args)
      (Rows.fnLargeValueCaseTableByMod6Spec.post enc Tryd.prog Tryd.f3 false true false false) := by
  refine returnsInHanded_of_change_and (C := Tryd.checked) (X := fun w _ => laidMetH Tryd.prog tabs w) (fun _ _ _ hh h => h.of_heap hh) own started (by kernel_rfl) Tryd.func3
    (ChangeSpec.witness_shaped (enc := enc) (C := Tryd.checked) (os := os) (X := fun w _ => laidMetH Tryd.prog tabs w) false (World.doorLaid Tryd.prog 24 os) #[.int .i64 0] 8 rfl (World.shaped_of_RefB (by kernel_rfl) (by kernel_rfl)) (by kernel_rfl) (by kernel_rfl) (by kernel_rfl) (door_met os _)) ?_
  intro W base args ds gs before hval0 hW _ _ hL _
  have hval : ∀ (j : Nat) t v, Tryd.f3.params[j]? = some t → args[j]? = some v → Value.okWide Tryd.prog W .any base t v := hval0
  have hW' := hW
  obtain ⟨p, q, hA0, hV, rfl, hfz, hnd⟩ := hW
  have hA : DataW.TrodAll enc Tryd.prog W 0 (fun _ => true) true Tryd.f3.params.toList args.toList ds p := hA0
  rw [Tryd.params3] at hA hval
  obtain ⟨v0, d0, rfl, rfl, h0⟩ := trodAll_one hA
  obtain ⟨rfl, rfl⟩ := trodVars_none hV
  obtain ⟨a0, rfl, rfl, rfl, w0⟩ := open_int Tryd.underlying3 (hval 0 3 v0 rfl rfl) h0
  have htab := tab_of hL
  clear hA0 hval0
  have hb := int_bounds w0
  refine (walk3 a0 W hb.1 hb.2 htab).mono fun e W' ⟨he, bel⟩ => ?_
  subst he
  exact ⟨_, rfl, _, _, _, [], _, [], hW', trodAll_mk1 (shut_bool Tryd.underlying4 _), trodAll_mk1 (shut_int Tryd.underlying3 w0), rfl, bel.frame _, fun h => by cases h⟩

theorem row_holds : Rows.FnLargeValueCaseTableByMod6Said :=
  OpenClaim.holds_of_wide 3 Tryd.f3 rfl rfl rfl rfl rfl rfl rfl ⟨rfl, rfl, rfl, rfl, rfl⟩ rfl rfl rfl rfl rfl (by kernel_rfl) Tryd.func3 (by kernel_rfl)
    (of_decide_eq_true (by kernel_rfl)) (by unfold Func.isWrapper; first | (rw [if_pos (by decide +kernel)]; kernel_rfl) | (rw [if_neg (by decide +kernel)]; exact ⟨rfl, rfl⟩))
    (fun os started H enc _ => lifted os started H enc)

theorem named3 : Tryd.prog.funcNamed Rows.fnLargeValueCaseTableByMod6Row.func = some 3 := by kernel_rfl

theorem card_holds : Rows.FnLargeValueCaseTableByMod6CardSaid :=
  Claim7.holds_tied_plain_at .later [] [.data, .data, .data] true Rows.fnLargeValueCaseTableByMod6Card.stood.harness false
    row_holds (fun _ h => by cases h) (by kernel_rfl) (fun _ h => by cases h) fnLargeValueCaseTableByMod6_row_tie rfl ⟨rfl, rfl⟩ (by kernel_rfl) rfl
    (fun f fn hf hfn => by
      obtain rfl : f = 3 := Option.some.inj (named3.symm.trans hf) |>.symm
      obtain rfl : fn = Tryd.f3 := (Option.some.inj (Tryd.func3.symm.trans hfn)).symm
      exact ⟨by kernel_rfl, fun j t ht => by
        rw [Tryd.params3] at ht
        have hm : t ∈ [3] := by simpa using Array.mem_of_getElem? ht
        have hall : ([3].all fun u => !Tryd.prog.wantsStandIn u) = true := by kernel_rfl
        exact (show Tryd.prog.wantsStandIn t = false by simpa using List.all_eq_true.1 hall t hm)⟩)
    (by kernel_rfl)
end Go.Proofs.Qxb6601626aDoor.fnMod6

namespace Go.Proofs.Qxb6601626aDoor
/-- The statement. -/
theorem fnLargeValueMod6_proved : Rows.FnLargeValueCaseTableByMod6CardSaid := fnMod6.card_holds
end Go.Proofs.Qxb6601626aDoor
