/-
  Seat b6601407a. Plain facts on the names of a script: no Go in sight.
-/
import Derived.Test.Qxb6601407aMem
namespace Go.Proofs.Qxb6601407a
open Go.RowKit Go.Maps

/-- The k-th name of a script, and the first k names. -/
def nm (Zs : List (List Int)) (k : Nat) : List UInt8 := bytesOf (Zs.getD k [])
def nms (Zs : List (List Int)) (k : Nat) : List (List UInt8) := (List.range k).map (nm Zs)
theorem nms_succ (Zs : List (List Int)) (k : Nat) : nms Zs (k + 1) = nms Zs k ++ [nm Zs k] := by simp [nms, List.range_succ]
theorem nms_len (Zs : List (List Int)) (k : Nat) : (nms Zs k).length = k := by simp [nms]
theorem nms_get (Zs : List (List Int)) {j k : Nat} (h : j < k) : (nms Zs k)[j]? = some (nm Zs j) := by simp [nms, h]
theorem mem_nms {Zs : List (List Int)} {j k : Nat} (h : j < k) : nm Zs j ∈ nms Zs k := List.mem_of_getElem? (nms_get Zs h)

/-- The names that are held behind those of L. -/
def held (L : List (List UInt8)) : List (List UInt8) := L.foldl addName []
theorem held_snoc (L : List (List UInt8)) (n : List UInt8) : held (L ++ [n]) = addName (held L) n := by simp [held, List.foldl_append]
theorem held_nil : held [] = [] := rfl

theorem mem_addName {l : List (List UInt8)} {n s : List UInt8} : s ∈ addName l n ↔ s ∈ l ∨ s = n := by
  unfold addName
  by_cases h : n ∈ l
  · rw [if_pos h]
    constructor
    · exact Or.inl
    · rintro (h1 | rfl)
      · exact h1
      · exact h
  · rw [if_neg h]; simp

theorem idxOf_addName {l : List (List UInt8)} {n s : List UInt8} (hs : s ∈ l) : (addName l n).idxOf s = l.idxOf s := by
  unfold addName
  by_cases h : n ∈ l
  · rw [if_pos h]
  · rw [if_neg h, List.idxOf_append, if_pos hs]

theorem idxOf_addName_self (l : List (List UInt8)) (n : List UInt8) : (addName l n).idxOf n = l.idxOf n := by
  unfold addName
  by_cases h : n ∈ l
  · rw [if_pos h]
  · rw [if_neg h, List.idxOf_append, if_neg h, List.idxOf_eq_length h]; simp

theorem fold_mem (L : List (List UInt8)) : ∀ (l : List (List UInt8)) (s : List UInt8), s ∈ L.foldl addName l ↔ s ∈ l ∨ s ∈ L := by
  induction L with
  | nil => intro l s; simp
  | cons n L ih => intro l s; rw [List.foldl_cons, ih, mem_addName, List.mem_cons, or_assoc]

theorem mem_held {L : List (List UInt8)} {s : List UInt8} : s ∈ held L ↔ s ∈ L := by rw [held, fold_mem]; simp

theorem addName_len (l : List (List UInt8)) (n : List UInt8) : (addName l n).length ≤ l.length + 1 := by
  unfold addName; split <;> simp

theorem fold_len (L : List (List UInt8)) : ∀ l : List (List UInt8), (L.foldl addName l).length ≤ l.length + L.length := by
  induction L with
  | nil => intro l; simp
  | cons n L ih => intro l; have := ih (addName l n); have := addName_len l n; simp only [List.foldl_cons, List.length_cons]; omega

theorem held_len (L : List (List UInt8)) : (held L).length ≤ L.length := by have := fold_len L []; simpa [held] using this

/-! ### a map from a name to the step at which it was first asked for -/
structure Firsts (D : DataW Unit) (L : List (List UInt8)) : Prop where
  has : ∀ s, Maps.has D (.string s) = decide (s ∈ L)
  place : ∀ s, s ∈ L → D.atKey (.string s) (.lit (.int .i64 0)) = .lit (.int .i64 (L.idxOf s : Int))

theorem firsts_nil : Firsts (.map []) [] := ⟨fun s => by simp [Maps.has], fun s h => (by cases h)⟩

theorem firsts_old {D : DataW Unit} {L : List (List UInt8)} (h : Firsts D L) {n : List UInt8} (hn : n ∈ L) : Firsts D (L ++ [n]) := by
  refine ⟨fun s => ?_, fun s hs => ?_⟩
  · rw [h.has s]
    have : s ∈ L ↔ s ∈ L ++ [n] := by
      simp only [List.mem_append, List.mem_singleton]
      constructor
      · exact Or.inl
      · rintro (h | rfl)
        · exact h
        · exact hn
    simp only [this]
  · have hs' : s ∈ L := by
      rcases List.mem_append.1 hs with h | h
      · exact h
      · rw [List.mem_singleton.1 h]; exact hn
    rw [h.place s hs', List.idxOf_append, if_pos hs']

theorem firsts_add {D : DataW Unit} {L : List (List UInt8)} (h : Firsts D L) (ht : Tidy D) {s : List UInt8} (hs : s ∉ L) :
    Firsts (D.put (.string s) (.lit (.int .i64 (L.length : Int)))) (L ++ [s]) := by
  refine ⟨fun t => ?_, fun t htm => ?_⟩
  · by_cases e : t = s
    · subst e
      rw [Maps.has_put_same ht.isMap (key_lit _)]
      simp
    · rw [Maps.has_put_other (lit_ne e), h.has t]
      simp [e]
  · by_cases e : t = s
    · subst e
      rw [Maps.atKey_put_same ht.isMap (key_lit _), List.idxOf_append, if_neg hs]
      simp
    · have htl : t ∈ L := by simpa [e] using htm
      rw [Maps.atKey_put_other (lit_ne e), h.place t htl, List.idxOf_append, if_pos htl]

/-- 'm[s]' with 'ok' on such a map, as an equation for the walk. -/
theorem look_firsts {w : World} {m k : Nat} {D : DataW Unit} {L : List (List UInt8)} {s : List UInt8} (hown : w.ownsMap Try.prog 9 (plainElem Try.prog 3) m k D) (hf : Firsts D L) (hs : s.length ≤ 1048576) :
    (Instr.lookup 37 (.map (some m)) (.string (str s)) true).run Try.prog w = .ok (.tuple #[.int .i64 (if s ∈ L then (L.idxOf s : Int) else 0), .bool (decide (s ∈ L))]) w := by
  have hkey : keyOf Try.prog 9 (.string (str s)) = some (.string s) := by
    have := WideMaps.keyOf_string_mk (P := Try.prog) (k := 9) Try.underlying9 (s := str s) (by rw [str_size]; unfold maxLen; omega)
    rw [str_list] at this; exact this
  obtain ⟨x, ps, hlook, hx⟩ := World.ownsMap.look_ok hown law9 Try.underlying37 (zero3 _) (plainElem_int Try.underlying3 (a := 0) (by decide)) hkey
  rw [hf.has s] at hlook
  by_cases hin : s ∈ L
  · rw [hf.place s hin] at hx
    obtain ⟨q, rfl, hq, _⟩ := plainElem_int_inv Try.underlying3 hx
    simp only [Prod.mk.injEq, DataW.lit.injEq, Lit.int.injEq, true_and] at hq
    rw [if_pos hin, hq.1]; exact hlook
  · rw [Maps.atKey_of_not_has (by rw [hf.has s]; simp [hin])] at hx
    obtain ⟨q, rfl, hq, _⟩ := plainElem_int_inv Try.underlying3 hx
    simp only [Prod.mk.injEq, DataW.lit.injEq, Lit.int.injEq, true_and] at hq
    rw [if_neg hin, hq.1]; exact hlook

/-- 'm[s] = k' on such a map. -/
theorem store_firsts {w : World} {m k : Nat} {D : DataW Unit} {L : List (List UInt8)} {s : List UInt8} (hown : w.ownsMap Try.prog 9 (plainElem Try.prog 3) m k D) (hf : Firsts D L) (hs : s.length ≤ 1048576) (hk : k ≤ 1048576) (hL : L.length ≤ 1048576) (hn : s ∉ L) :
    ∃ w', (Instr.mapUpdate 37 (.map (some m)) (.string (str s)) (.int .i64 (L.length : Int))).run Try.prog w = .ok () w' ∧ (∃ D', w'.ownsMap Try.prog 9 (plainElem Try.prog 3) m (k + 1) D' ∧ Firsts D' (L ++ [s])) ∧ w.grownBy w' (some m) := by
  have hkey : keyOf Try.prog 9 (.string (str s)) = some (.string s) := by
    have := WideMaps.keyOf_string_mk (P := Try.prog) (k := 9) Try.underlying9 (s := str s) (by rw [str_size]; unfold maxLen; omega)
    rw [str_list] at this; exact this
  obtain ⟨w', h1, h2, h3⟩ := World.ownsMap.update hown law9 Try.underlying37 (by unfold maxLen; omega) (val := .int .i64 (L.length : Int)) hkey (plainElem_int Try.underlying3 (WalkArith.wf_i64 (by omega)))
  exact ⟨w', h1, ⟨_, h2, firsts_add hf (hown.tidy law9) hn⟩, h3⟩
end Go.Proofs.Qxb6601407a
