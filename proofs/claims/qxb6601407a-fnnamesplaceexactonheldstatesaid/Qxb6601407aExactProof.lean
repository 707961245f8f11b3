/-
  Seat b6601407a. 'Rows.FnNamesPlaceExactOnHeldStateSaid'.
-/
import Derived.Test.Qxb6601407aExact
import Derived.Test.Qxb6601407aArgs
import Derived.SliceStrings
namespace Go.Proofs.Qxb6601407a.fnExact
open Go.ChangeShapes Go.WideShapes Go.ChangeAt Go.RowKit

theorem cells9 : Try.prog.cellsOf 9 = 1 := by kernel_rfl

/-- A []byte as the reader tells it. -/
theorem bytes_of {H : Type} {enc : TypeId × Value → H} {w : World} {base : Nat} {held : Bool} {fuel : Nat} {v : Value} {x : DataW H × List MemPlace} (h : DataW.trod enc Try.prog w base (fun _ => true) held fuel 35 [v] = some x) :
    ∃ zs a c, v = .slice a zs.length c ∧ ByteView w v zs ∧ zs.length ≤ maxLen := by
  rcases open_ints Try.underlying35 Try.underlying5 Try.cells5 h with ⟨hcs, _⟩ | ⟨a, len, cap, zs, hcs, _, hl, hm, hz, _, hcell, _⟩
  · simp only [List.cons.injEq, and_true] at hcs
    exact ⟨[], none, 0, hcs, ⟨none, 0, hcs, Or.inl rfl⟩, by simp⟩
  · simp only [List.cons.injEq, and_true] at hcs
    simp only [if_true] at hz
    have hlen : (zs.take len).length = len := by simp; omega
    refine ⟨zs.take len, some a, cap, by rw [hlen]; exact hcs, ?_, by rw [hlen]; omega⟩
    rw [hcs]
    exact byteView_of hl hz (fun e => by cases e) (fun a' ha c hc => by cases ha; exact hcell c (by omega))

theorem str_of (s : ByteArray) : str s.data.toList = s := by
  cases s; simp [str]

/-- A []string as the reader tells it. -/
theorem strings_of {H : Type} {enc : TypeId × Value → H} {w : World} {base : Nat} {held : Bool} {fuel : Nat} {v : Value} {x : DataW H × List MemPlace} (h : DataW.trod enc Try.prog w base (fun _ => true) held fuel 34 [v] = some x) :
    ∃ (hs : List (List UInt8)) (a : Option Addr) (c : Nat), v = .slice a hs.length c ∧ StrView w v hs ∧ hs.length ≤ maxLen := by
  rcases open_strings Try.underlying34 Try.underlying9 cells9 h with ⟨hcs, _⟩ | ⟨a, len, cap, ss, hcs, _, hl, hm, hz, _, hcell, _⟩
  · simp only [List.cons.injEq, and_true] at hcs
    exact ⟨[], none, 0, hcs, ⟨none, 0, hcs, Or.inl rfl⟩, by simp⟩
  · simp only [List.cons.injEq, and_true] at hcs
    simp only [if_true] at hz
    have hlen : ((ss.take len).map fun s => s.data.toList).length = len := by simp; omega
    refine ⟨(ss.take len).map fun s => s.data.toList, some a, cap, by rw [hlen]; exact hcs, ?_, by rw [hlen]; omega⟩
    rw [hcs]
    refine ⟨some a, cap, by rw [hlen], ?_⟩
    by_cases h0 : len = 0
    · left; rw [h0]; simp
    · right
      obtain ⟨b, o, rfl⟩ := plain_addr (hcell 0 (by omega))
      refine ⟨b, o, rfl, fun i hi => ?_⟩
      rw [hlen] at hi
      have := hcell i (by omega)
      rw [add_plain] at this
      rw [this]
      have hi2 : i < ss.length := by omega
      simp [List.getD, hi, hi2, str_of]

set_option maxRecDepth 100000 in
theorem lifted (os : Os) (started : os.Started) (H : Type) (enc : TypeId × Value → H) :
    ReturnsInHanded {} Try.checked os 5 .any (Rows.fnNamesPlaceExactOnHeldStateSpec.pre6 enc Try.prog Try.f5 Rows.fnNamesPlaceExactOnHeldStateRow.domain false) (Rows.fnNamesPlaceExactOnHeldStateSpec.post enc Try.prog Try.f5 false true false false) := by
  refine returnsInHanded_of_change (C := Try.checked) own started (by kernel_rfl) Try.func5
    (ChangeSpec.witness6 (enc := enc) (C := Try.checked) false ⟨#[], #[.slice none 0 0, .slice none 0 0], []⟩ 8 (by kernel_rfl) (by kernel_rfl) (by kernel_rfl) (by kernel_rfl)) ?_
  intro W base args ds gs before hval0 hW hcnd _
  have hW' := hW
  obtain ⟨p, q, hA0, hV, rfl, hfz, hnd⟩ := hW
  have hA : DataW.TrodAll enc Try.prog W 0 (fun _ => true) true Try.f5.params.toList args.toList ds p := hA0
  rw [Try.params5] at hA
  obtain ⟨v0, v1, d0, d1, p0, p1, rfl, rfl, rfl, h0, h1⟩ := trodAll_two hA
  obtain ⟨rfl, rfl⟩ := trodVars_none hV
  have k0 := h0
  have k1 := h1
  have lt0 : ∀ x ∈ p0, x.block < W.heap.size := by obtain ⟨m, hm⟩ := k0; exact DataW.trod_lt m _ _ _ hm
  have lt1 : ∀ x ∈ p1, x.block < W.heap.size := by obtain ⟨m, hm⟩ := k1; exact DataW.trod_lt m _ _ _ hm
  have hval : ∀ (j : Nat) t v, Try.f5.params[j]? = some t → #[v0, v1][j]? = some v → Value.okWide Try.prog W .any base t v := hval0
  rw [Try.params5] at hval
  obtain ⟨a0, len0, cap0, e0⟩ := okWide_slice Try.underlying34 (hval 0 34 v0 rfl rfl)
  obtain ⟨a1, len1, cap1, e1⟩ := okWide_slice Try.underlying35 (hval 1 35 v1 rfl rfl)
  obtain ⟨hs, ha, hc, e2, hsv, hsl⟩ : ∃ (hs : List (List UInt8)) (a : Option Addr) (c : Nat), v0 = .slice a hs.length c ∧ StrView W v0 hs ∧ hs.length ≤ maxLen := by
    obtain ⟨fuel, hf⟩ := h0
    exact strings_of (by rw [e0] at hf ⊢; simpa [Value.cells] using hf)
  obtain ⟨zs, na, nc, e3, hzv, hzl⟩ : ∃ zs a c, v1 = .slice a zs.length c ∧ ByteView W v1 zs ∧ zs.length ≤ maxLen := by
    obtain ⟨fuel, hf⟩ := h1
    exact bytes_of (by rw [e1] at hf ⊢; simpa [Value.cells] using hf)
  clear hA0 hval0 hval e0 e1
  subst e2
  subst e3
  refine (walk5 hsv hzv hzl hsl).mono fun e W' ⟨he, bel⟩ => ?_
  subst he
  exact ⟨_, rfl, _, _, _, [], _, [], hW', trodAll_mk1 (shut_bool Try.underlying4 _), (trodAll_mk2 (Below.trod laidOut (by kernel_rfl) (of_decide_eq_true (by kernel_rfl)) k0 bel lt0) (Below.trod laidOut (by kernel_rfl) (of_decide_eq_true (by kernel_rfl)) k1 bel lt1)), rfl, bel.frame _, fun h => by cases h⟩

theorem over : Rows.fnNamesPlaceExactOnHeldStateRow.holds Try.pinned (OpenSpec.ofChange Rows.fnNamesPlaceExactOnHeldStateSpec) :=
  OpenClaim.holds_of_wide 5 Try.f5 rfl rfl rfl rfl rfl rfl rfl ⟨rfl, rfl, rfl, rfl, rfl⟩ rfl rfl rfl rfl rfl (by kernel_rfl) Try.func5 (by kernel_rfl)
    (of_decide_eq_true (by kernel_rfl)) (by unfold Func.isWrapper; first | (rw [if_pos (by decide +kernel)]; kernel_rfl) | (rw [if_neg (by decide +kernel)]; exact ⟨rfl, rfl⟩))
    (fun os started H enc _ => lifted os started H enc)
end Go.Proofs.Qxb6601407a.fnExact

namespace Go.Proofs.Qxb6601407a
/-- The statement. -/
theorem fnNamesPlaceExact_proved : Rows.FnNamesPlaceExactOnHeldStateSaid := fnExact.over
end Go.Proofs.Qxb6601407a
