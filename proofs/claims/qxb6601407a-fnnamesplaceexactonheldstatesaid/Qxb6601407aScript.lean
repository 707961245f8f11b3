/-
  Seat b6601407a. What the three laws over a script share: the copied script in later worlds, the blocks of a 'names'.
-/
import Derived.Test.Qxb6601407aNames
import Derived.Test.Qxb6601407aFits
import Derived.Test.Qxb6601407aPlain
namespace Go.Proofs.Qxb6601407a
open Go.RowKit Go.Maps Go.Deep

/-- The blocks of the 'names' that a law lays behind the copied script: its own block B, and those from B + d on. -/
def Mine (B d : Nat) : Nat → Prop := fun j => j = B ∨ B + d ≤ j

theorem Names.shrink {w w' : World} {B d bn : Nat} {l : List (List UInt8)} (h : Names w' (Wider (Mine B d) w) bn l) (hB : B + d ≤ w.heap.size) : Names w' (Mine B d) bn l :=
  h.mono (fun j _ hj => by
    rcases hj with h | h
    · exact h
    · exact Or.inr (by omega))

/-- A copied script in a later world. -/
theorem OwnScript.below {w w' : World} {B : Nat} {v : Value} {Zs : List (List Int)} (h : OwnScript w B v Zs) (hb : Below w.heap.size w w') : OwnScript w' B v Zs := by
  obtain ⟨V, h1, h2⟩ := h
  have ho : Off (fun _ => False) w w' := Off.of_below hb
  exact ⟨V, ho.ownsRow h1 (fun _ _ h => h), fun j hj => ho.ownsRow (h2 j hj) (fun _ _ h => h)⟩

/-- Its k-th cell, and the row that it leads to. -/
theorem OwnScript.row {w : World} {B : Nat} {v : Value} {Zs : List (List Int)} (h : OwnScript w B v Zs) {k : Nat} (hk : k < Zs.length) :
    ∃ g c x, v = .slice (some ⟨g, 0, none⟩) Zs.length c ∧ w.cell? ⟨g, k, none⟩ = some x ∧ w.ownsRow B 5 1 x (Zs.getD k []).length ((Zs.getD k []).map (Value.int .u8)) := by
  obtain ⟨V, h1, h2⟩ := h
  rcases ownsRow_shape h1 with ⟨_, h0, _⟩ | ⟨g, c, hv, _, _, hc, _⟩
  · omega
  · refine ⟨g, c, V k, hv, ?_, h2 k hk⟩
    rw [hc k hk]; simp [hk]

theorem OwnScript.shape {w : World} {B : Nat} {v : Value} {Zs : List (List Int)} (h : OwnScript w B v Zs) : ∃ a c, v = .slice a Zs.length c := by
  obtain ⟨V, h1, h2⟩ := h
  rcases ownsRow_shape h1 with ⟨hv, h0, _⟩ | ⟨g, c, hv, _⟩
  · exact ⟨none, 0, by rw [hv, h0]⟩
  · exact ⟨_, _, hv⟩

theorem row_base0 {w : World} {B : Nat} {t : TypeId} {v : Value} {n : Nat} {xs : List Value} (h : w.ownsRow B t 1 v n xs) : w.ownsRow 0 t 1 v n xs := by
  refine ⟨h.1, ?_⟩
  rcases h.2 with h2 | ⟨g, cap, cur, a1, a2, a3⟩
  · exact Or.inl h2
  · exact Or.inr ⟨g, cap, cur, a1, Nat.zero_le _, a3⟩

/-- The k-th name of the copied script, in every later world. -/
theorem script_at {w1 : World} {B : Nat} {v : Value} {Zs : List (List Int)} (h : OwnScript w1 B v Zs) {k : Nat} (hk : k < Zs.length) :
    ∃ g c x, v = .slice (some ⟨g, 0, none⟩) Zs.length c ∧ ∀ W, Below w1.heap.size w1 W → W.cell? ⟨g, k, none⟩ = some x ∧ W.ownsRow 0 5 1 x (Zs.getD k []).length ((Zs.getD k []).map (Value.int .u8)) ∧
      (convert 35 9 x).run Try.prog W = .ok (.string (str (nm Zs k))) W := by
  obtain ⟨g, c, x, hv, hc, hr⟩ := h.row hk
  refine ⟨g, c, x, hv, fun W hW => ?_⟩
  have hr' := (Off.of_below (S := fun _ => False) hW).ownsRow (row_base0 hr) (fun _ _ h => h)
  exact ⟨cell_kept hW hc, hr', conv_own hr'⟩

def Post (w : World) (e : Ending) (w' : World) : Prop := e = .returned (.bool true) ∧ Below w.heap.size w w'

theorem nm_len {Zs : List (List Int)} {k : Nat} (hZ : ∀ j, j < Zs.length → (Zs.getD j []).length ≤ 1048576) (hk : k < Zs.length) : (nm Zs k).length ≤ 1048576 := by
  rw [nm, bytesOf_len]; exact hZ k hk

end Go.Proofs.Qxb6601407a
