/-
  Seat b6601407a. From the reader's datum to 'ScriptView', 'ByteView'.
-/
import Derived.Test.Qxb6601407aCopy
import Derived.Deep.Matrix
import Derived.ProofKit
import Derived.ShutString
import Derived.ChangeOld
import Derived.Below
namespace Go.Proofs.Qxb6601407a
open Go.ChangeShapes Go.WideShapes Go.ChangeAt Go.RowKit Go.Deep

theorem own : ownKnob Try.prog.godebug = none := by kernel_rfl
theorem laidOut : laidOutB Try.prog = true := by kernel_rfl
theorem Try.cells48 : Try.prog.cellsOf 48 = 1 := by kernel_rfl
theorem Try.cells35 : Try.prog.cellsOf 35 = 1 := by kernel_rfl
theorem Try.cells5 : Try.prog.cellsOf 5 = 1 := by kernel_rfl

theorem plain_addr {w : World} {a : Addr} {v : Value} (h : w.cell? (a.add 0) = some v) : ∃ b o, a = ⟨b, o, none⟩ := by
  obtain ⟨b, o, spot⟩ := a
  have hs : spot = none := by simpa [Addr.add] using World.cell?_spot h
  subst hs
  exact ⟨b, o, rfl⟩

/-- A []byte as 'open_ints' tells it. -/
theorem byteView_of {w : World} {A : Option Addr} {L C : Nat} {Z : List Int} (hLC : L ≤ C) (hZ : Z.length = C) (h0 : A = none → C = 0) (hc : ∀ a', A = some a' → ∀ c, c < C → w.cell? (a'.add c) = some (.int .u8 (Z.getD c 0))) :
    ByteView w (.slice A L C) (Z.take L) := by
  have hlen : (Z.take L).length = L := by simp; omega
  refine ⟨A, C, by rw [hlen], ?_⟩
  by_cases hL : L = 0
  · left; rw [hL]; rfl
  · right
    cases A with
    | none => have := h0 rfl; omega
    | some a =>
      obtain ⟨b, o, rfl⟩ := plain_addr (hc a rfl 0 (by omega))
      refine ⟨b, o, rfl, fun j hj => ?_⟩
      rw [hlen] at hj
      have := hc _ rfl j (by omega)
      rw [add_plain] at this
      rw [this]
      simp [List.getD, hj]

theorem scriptView_of {H : Type} {enc : TypeId × Value → H} {w : World} {base : Nat} {held : Bool} {fuel : Nat} {v : Value} {x : DataW H × List MemPlace} (h : DataW.trod enc Try.prog w base (fun _ => true) held fuel 48 [v] = some x) : ∃ Zs, ScriptView w v Zs := by
  rcases open_int_rows Try.underlying48 Try.underlying35 Try.underlying5 Try.cells35 Try.cells5 h with ⟨hcs, _⟩ | ⟨a, len, cap, A, L, C, Z, hcs, _, hl, _, _, hr⟩
  · simp only [List.cons.injEq, and_true] at hcs
    exact ⟨[], none, 0, hcs, Or.inl rfl⟩
  · simp only [List.cons.injEq, and_true] at hcs
    refine ⟨(List.range len).map fun r => (Z r).take (L r), some a, cap, by simpa using hcs, ?_⟩
    by_cases h0 : len = 0
    · left; rw [h0]; rfl
    · right
      obtain ⟨b, o, rfl⟩ := plain_addr (hr 0 (by omega)).1
      refine ⟨b, o, rfl, fun i hi => ?_⟩
      simp only [List.length_map, List.length_range] at hi
      obtain ⟨h1, h2, h3, h4, _, h6, h7⟩ := hr i (by omega)
      rw [add_plain] at h1
      refine ⟨_, h1, ?_⟩
      have e : ((List.range len).map fun r => (Z r).take (L r)).getD i [] = (Z i).take (L i) := by simp [List.getD, hi]
      rw [e]
      exact byteView_of h2 h4 h6 (fun a' ha => (h7 a' ha).2)
end Go.Proofs.Qxb6601407a
