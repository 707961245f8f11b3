/-
  Seat b6601476a. stringEnd as a plain function on the bytes of the text; what the laws say of it. No Go in sight.
-/
namespace Go.Proofs.Qxb6601476a

/-- How many of the first k bytes are q, from the first on. -/
def run (q : UInt8) : Nat → List UInt8 → Nat
  | 0, _ => 0
  | _ + 1, [] => 0
  | k + 1, c :: r => if c = q then 1 + run q k r else 0

/-- The list opens with three quotes. -/
def pre3 (q : UInt8) (l : List UInt8) : Bool := [q, q, q].isPrefixOf l

/-- Where the string ends, counted from the list's head: the bytes behind the opening. -/
def scan (esc multi : Bool) (q : UInt8) : List UInt8 → Nat
  | [] => 0
  | [_] => 1
  | c :: d :: r =>
    if esc = true ∧ c = 92 then 2 + scan esc multi q r
    else if multi = false ∧ c = q then 1
    else if multi = true ∧ pre3 q (c :: d :: r) = true then 3 + run q 2 (r.drop 1)
    else 1 + scan esc multi q (d :: r)

/-- stringEnd of the text t at the place i, where the quote q stands. -/
def strEnd (q : UInt8) (t : List UInt8) (i : Nat) : Nat :=
  if pre3 q (t.drop i) = true then i + 3 + scan (decide (q = 34)) true q (t.drop (i + 3)) else i + 1 + scan (decide (q = 34)) false q (t.drop (i + 1))

theorem run_le (q : UInt8) : ∀ (k : Nat) (l : List UInt8), run q k l ≤ k ∧ run q k l ≤ l.length
  | 0, l => by simp [run]
  | k + 1, [] => by simp [run]
  | k + 1, c :: r => by
    have := run_le q k r
    unfold run
    split <;> simp <;> omega

theorem pre3_len {q : UInt8} {l : List UInt8} (h : pre3 q l = true) : 3 ≤ l.length := by
  match l with
  | [] => simp [pre3] at h
  | [_] => simp [pre3] at h
  | [_, _] => simp [pre3] at h
  | _ :: _ :: _ :: _ => simp

theorem pre3_cons (q : UInt8) (a b c : UInt8) (r : List UInt8) : pre3 q (a :: b :: c :: r) = true ↔ a = q ∧ b = q ∧ c = q := by
  simp only [pre3, List.isPrefixOf, Bool.and_true, Bool.and_eq_true, beq_iff_eq]
  constructor
  · rintro ⟨h1, h2, h3⟩
    exact ⟨h1.symm, h2.symm, h3.symm⟩
  · rintro ⟨h1, h2, h3⟩
    exact ⟨h1.symm, h2.symm, h3.symm⟩

theorem scan_le (esc multi : Bool) (q : UInt8) : ∀ l : List UInt8, scan esc multi q l ≤ l.length
  | [] => by simp [scan]
  | [_] => by simp [scan]
  | c :: d :: r => by
    have h1 := scan_le esc multi q r
    have h2 := scan_le esc multi q (d :: r)
    unfold scan
    split
    · simp; omega
    split
    · simp
    split
    · rename_i h
      have h3 := pre3_len h.2
      have h4 := (run_le q 2 (r.drop 1)).2
      simp at h3 h4 ⊢
      omega
    · simp at h2 ⊢; omega

/-! ### the loop's own steps, on places -/
/-- What the loop comes to from the place I on. -/
def from_ (esc multi : Bool) (q : UInt8) (t : List UInt8) (I : Nat) : Nat := if I ≤ t.length then I + scan esc multi q (t.drop I) else t.length

theorem from_end (esc multi : Bool) (q : UInt8) (t : List UInt8) {I : Nat} (h : t.length ≤ I) : from_ esc multi q t I = t.length := by
  unfold from_
  split
  · have : I = t.length := by omega
    subst this
    simp [scan]
  · rfl

theorem drop_two (t : List UInt8) {I : Nat} (h : I < t.length) : t.drop I = t[I] :: t.drop (I + 1) := List.drop_eq_getElem_cons h

theorem from_esc (multi : Bool) (q : UInt8) (t : List UInt8) {I : Nat} (h : I < t.length) (hc : t[I] = 92) : from_ true multi q t I = from_ true multi q t (I + 2) := by
  by_cases h2 : I + 1 < t.length
  · unfold from_
    rw [if_pos (by omega), if_pos (by omega), drop_two t h, drop_two t h2, scan, if_pos ⟨rfl, hc⟩, show I + 1 + 1 = I + 2 from rfl]
    omega
  · rw [from_end true multi q t (I := I + 2) (by omega)]
    unfold from_
    rw [if_pos (by omega), drop_two t h, List.drop_eq_nil_of_le (by omega), scan]
    omega

theorem from_close (esc : Bool) (q : UInt8) (t : List UInt8) {I : Nat} (h : I < t.length) (hc : t[I] = q) (he : ¬ (esc = true ∧ t[I] = 92)) : from_ esc false q t I = I + 1 := by
  unfold from_
  rw [if_pos (by omega), drop_two t h]
  by_cases h2 : I + 1 < t.length
  · rw [drop_two t h2, scan, if_neg he, if_pos ⟨rfl, hc⟩]
  · rw [List.drop_eq_nil_of_le (by omega), scan]

theorem from_close3 (esc : Bool) (q : UInt8) (t : List UInt8) {I : Nat} (h : I < t.length) (hp : pre3 q (t.drop I) = true) (he : ¬ (esc = true ∧ t[I] = 92)) : from_ esc true q t I = I + 3 + run q 2 (t.drop (I + 3)) := by
  have h3 := pre3_len hp
  simp at h3
  unfold from_
  rw [if_pos (by omega), drop_two t h, drop_two t (by omega : I + 1 < t.length), scan, if_neg he, if_neg (by simp), if_pos ⟨rfl, by rw [← drop_two t (by omega : I + 1 < t.length), ← drop_two t h]; exact hp⟩]
  rw [List.drop_drop]
  have e : I + 1 + 1 + 1 = I + 3 := by omega
  rw [e]
  omega

theorem from_next (esc multi : Bool) (q : UInt8) (t : List UInt8) {I : Nat} (h : I < t.length) (he : ¬ (esc = true ∧ t[I] = 92)) (h1 : ¬ (multi = false ∧ t[I] = q)) (h2 : ¬ (multi = true ∧ pre3 q (t.drop I) = true)) :
    from_ esc multi q t I = from_ esc multi q t (I + 1) := by
  by_cases hlt : I + 1 < t.length
  · unfold from_
    rw [if_pos (by omega), if_pos (by omega), drop_two t h, drop_two t hlt, scan, if_neg he, if_neg h1, if_neg (by rw [← drop_two t hlt, ← drop_two t h]; exact h2)]
    omega
  · rw [from_end esc multi q t (I := I + 1) (by omega)]
    unfold from_
    rw [if_pos (by omega), drop_two t h, List.drop_eq_nil_of_le (by omega), scan]
    omega

theorem run_step_yes (q : UInt8) (t : List UInt8) (k : Nat) {I : Nat} (h : I < t.length) (hc : t[I] = q) : run q (k + 1) (t.drop I) = 1 + run q k (t.drop (I + 1)) := by
  rw [drop_two t h, run, if_pos hc]
theorem run_step_no (q : UInt8) (t : List UInt8) (k : Nat) {I : Nat} (h : I < t.length) (hc : ¬ t[I] = q) : run q (k + 1) (t.drop I) = 0 := by
  rw [drop_two t h, run, if_neg hc]
theorem run_step_end (q : UInt8) (t : List UInt8) (k : Nat) {I : Nat} (h : t.length ≤ I) : run q k (t.drop I) = 0 := by
  rw [List.drop_eq_nil_of_le h]
  cases k <;> rfl
theorem run_zero (q : UInt8) (l : List UInt8) : run q 0 l = 0 := by cases l <;> rfl

theorem strEnd_multi {q : UInt8} {t : List UInt8} {i : Nat} (h : pre3 q (t.drop i) = true) (hi : i < t.length) : strEnd q t i = from_ (decide (q = 34)) true q t (i + 3) := by
  have h3 := pre3_len h
  simp at h3
  unfold strEnd from_
  rw [if_pos h, if_pos (by omega)]
theorem strEnd_plain {q : UInt8} {t : List UInt8} {i : Nat} (h : ¬ pre3 q (t.drop i) = true) (hi : i < t.length) : strEnd q t i = from_ (decide (q = 34)) false q t (i + 1) := by
  unfold strEnd from_
  rw [if_neg h, if_pos (by omega)]

/-! ### the laws -/
/-- What stands before the opening quote does not matter. -/
theorem strEnd_shift (q : UInt8) (p t : List UInt8) (i : Nat) : strEnd q (p ++ t) (p.length + i) = p.length + strEnd q t i := by
  unfold strEnd
  have h : ∀ j, (p ++ t).drop (p.length + j) = t.drop j := fun j => by simp [List.drop_append]
  rw [h i, show p.length + i + 3 = p.length + (i + 3) by omega, show p.length + i + 1 = p.length + (i + 1) by omega, h, h]
  split <;> omega

theorem strEnd_bounds (q : UInt8) (t : List UInt8) {i : Nat} (hi : i < t.length) : i < strEnd q t i ∧ strEnd q t i ≤ t.length := by
  unfold strEnd
  split
  · rename_i h
    have h3 := pre3_len h
    have := scan_le (decide (q = 34)) true q (t.drop (i + 3))
    simp at h3 this
    omega
  · have := scan_le (decide (q = 34)) false q (t.drop (i + 1))
    simp at this
    omega
end Go.Proofs.Qxb6601476a
