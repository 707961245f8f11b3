/-
  Seat b6601476a. The answer is self-contained: plain facts on strEnd. No Go in sight.
-/
import Derived.Test.Qxb6601476aPlain
namespace Go.Proofs.Qxb6601476a

theorem scan_pos (esc multi : Bool) (q : UInt8) : ∀ l : List UInt8, 0 < l.length → 1 ≤ scan esc multi q l
  | [], h => by simp at h
  | [_], _ => by simp [scan]
  | c :: d :: r, _ => by
    unfold scan
    split
    · omega
    split
    · omega
    split <;> omega

theorem run_take (q : UInt8) : ∀ (k : Nat) (l : List UInt8), run q k (l.take (run q k l)) = run q k l
  | 0, l => by simp [run]
  | k + 1, [] => by simp [run]
  | k + 1, c :: r => by
    by_cases h : c = q
    · rw [run, if_pos h, Nat.add_comm 1, List.take_succ_cons, run, if_pos h, run_take q k r]
      omega
    · rw [run, if_neg h]; rfl

theorem run_append (q : UInt8) : ∀ (k : Nat) (l s : List UInt8), run q k l < l.length → run q k (l ++ s) = run q k l
  | 0, l, s, _ => by simp [run]
  | k + 1, [], s, h => by simp [run] at h
  | k + 1, c :: r, s, h => by
    by_cases hc : c = q
    · rw [run, if_pos hc] at h ⊢
      rw [List.cons_append, run, if_pos hc, run_append q k r s (by simp at h; omega)]
    · rw [run, if_neg hc, List.cons_append, run, if_neg hc]

theorem run_last (q : UInt8) : ∀ (k : Nat) (l : List UInt8) (j : Nat), j < run q k l → l[j]? = some q
  | 0, l, j, h => by simp [run] at h
  | k + 1, [], j, h => by simp [run] at h
  | k + 1, c :: r, j, h => by
    by_cases hc : c = q
    · rw [run, if_pos hc] at h
      cases j with
      | zero => simp [hc]
      | succ j => rw [List.getElem?_cons_succ]; exact run_last q k r j (by omega)
    · rw [run, if_neg hc] at h; omega

theorem pre3_take {q : UInt8} {l : List UInt8} {n : Nat} (h : pre3 q (l.take n) = true) : pre3 q l = true := by
  unfold pre3 at *
  rw [List.isPrefixOf_iff_prefix] at *
  exact h.trans (List.take_prefix n l)

theorem pre3_take_of {q : UInt8} {l : List UInt8} {n : Nat} (hn : 3 ≤ n) (h : pre3 q l = true) : pre3 q (l.take n) = true := by
  have h3 := pre3_len h
  match l, h3 with
  | a :: b :: c :: r, _ =>
    obtain ⟨m, rfl⟩ : ∃ m, n = m + 3 := ⟨n - 3, by omega⟩
    rw [List.take_succ_cons, List.take_succ_cons, List.take_succ_cons]
    rw [pre3_cons] at h ⊢
    exact h

theorem pre3_append {q : UInt8} {l s : List UInt8} (h3 : 3 ≤ l.length) : pre3 q (l ++ s) = pre3 q l := by
  match l, h3 with
  | a :: b :: c :: r, _ =>
    rw [Bool.eq_iff_iff, List.cons_append, List.cons_append, List.cons_append, pre3_cons, pre3_cons]

theorem scan_take (esc multi : Bool) (q : UInt8) : ∀ l : List UInt8, scan esc multi q (l.take (scan esc multi q l)) = scan esc multi q l
  | [] => by simp [scan]
  | [_] => by simp [scan]
  | c :: d :: r => by
    have ih1 := scan_take esc multi q r
    have ih2 := scan_take esc multi q (d :: r)
    have hpos := scan_pos esc multi q (d :: r) (by simp)
    by_cases h1 : esc = true ∧ c = 92
    · rw [scan, if_pos h1, Nat.add_comm 2, List.take_succ_cons, List.take_succ_cons, scan, if_pos h1, ih1]
      omega
    by_cases h2 : multi = false ∧ c = q
    · rw [scan, if_neg h1, if_pos h2]; rfl
    by_cases h3 : multi = true ∧ pre3 q (c :: d :: r) = true
    · have hl := pre3_len h3.2
      match r, hl with
      | e :: r', _ =>
        rw [scan, if_neg h1, if_neg h2, if_pos h3]
        simp only [List.drop_succ_cons, List.drop_zero]
        rw [Nat.add_comm 3, List.take_succ_cons, List.take_succ_cons, List.take_succ_cons, scan, if_neg h1, if_neg h2, if_pos ⟨h3.1, by have := h3.2; rw [pre3_cons] at this ⊢; exact this⟩]
        simp only [List.drop_succ_cons, List.drop_zero]
        rw [run_take]
        omega
    · rw [scan, if_neg h1, if_neg h2, if_neg h3, Nat.add_comm 1, List.take_succ_cons]
      obtain ⟨m, hm⟩ : ∃ m, scan esc multi q (d :: r) = m + 1 := ⟨scan esc multi q (d :: r) - 1, by omega⟩
      rw [hm] at ih2 ⊢
      rw [List.take_succ_cons] at ih2 ⊢
      have h3' : ¬ (multi = true ∧ pre3 q (c :: d :: r.take m) = true) := by
        rintro ⟨e1, e2⟩
        refine h3 ⟨e1, ?_⟩
        have : c :: d :: r.take m = (c :: d :: r).take (m + 2) := by rw [List.take_succ_cons, List.take_succ_cons]
        rw [this] at e2
        exact pre3_take e2
      rw [scan, if_neg h1, if_neg h2, if_neg h3', ih2]
      omega

theorem scan_append (esc multi : Bool) (q : UInt8) : ∀ (l s : List UInt8), scan esc multi q l < l.length → scan esc multi q (l ++ s) = scan esc multi q l
  | [], s, h => by simp [scan] at h
  | [_], s, h => by simp [scan] at h
  | c :: d :: r, s, h => by
    have ih1 := scan_append esc multi q r s
    have ih2 := scan_append esc multi q (d :: r) s
    rw [List.cons_append, List.cons_append]
    by_cases h1 : esc = true ∧ c = 92
    · rw [scan, if_pos h1] at h ⊢
      rw [scan, if_pos h1, ih1 (by simp at h; omega)]
    by_cases h2 : multi = false ∧ c = q
    · rw [scan, if_neg h1, if_pos h2, scan, if_neg h1, if_pos h2]
    by_cases h3 : multi = true ∧ pre3 q (c :: d :: r) = true
    · have hl := pre3_len h3.2
      match r, hl with
      | e :: r', _ =>
        have e0 : scan esc multi q (c :: d :: e :: r') = 3 + run q 2 ((e :: r').drop 1) := by rw [scan, if_neg h1, if_neg h2, if_pos h3]
        rw [e0] at h ⊢
        rw [List.cons_append, scan, if_neg h1, if_neg h2, if_pos ⟨h3.1, by have := h3.2; rw [pre3_cons] at this ⊢; exact this⟩]
        simp only [List.drop_succ_cons, List.drop_zero] at h ⊢
        rw [run_append q 2 r' s (by simp at h; omega)]
    · have e0 : scan esc multi q (c :: d :: r) = 1 + scan esc multi q (d :: r) := by rw [scan, if_neg h1, if_neg h2, if_neg h3]
      rw [e0] at h ⊢
      have hr : 0 < r.length := by
        cases r with
        | nil => simp [scan] at h
        | cons e r' => simp
      have h3' : ¬ (multi = true ∧ pre3 q (c :: d :: (r ++ s)) = true) := by
        rintro ⟨e1, e2⟩
        refine h3 ⟨e1, ?_⟩
        rw [← List.cons_append, ← List.cons_append, pre3_append (by simp; omega)] at e2
        exact e2
      rw [scan, if_neg h1, if_neg h2, if_neg h3', ← List.cons_append, ih2 (by simp at h ⊢; omega)]

theorem scan_last (esc multi : Bool) (q : UInt8) : ∀ l : List UInt8, scan esc multi q l < l.length → l[scan esc multi q l - 1]? = some q
  | [], h => by simp [scan] at h
  | [_], h => by simp [scan] at h
  | c :: d :: r, h => by
    have ih1 := scan_last esc multi q r
    have ih2 := scan_last esc multi q (d :: r)
    have hpos := scan_pos esc multi q (d :: r) (by simp)
    by_cases h1 : esc = true ∧ c = 92
    · rw [scan, if_pos h1] at h ⊢
      have hr : scan esc multi q r < r.length := by simp at h; omega
      have hp := scan_pos esc multi q r (by omega)
      obtain ⟨m, hm⟩ : ∃ m, scan esc multi q r = m + 1 := ⟨scan esc multi q r - 1, by omega⟩
      have := ih1 hr
      rw [hm] at this ⊢
      rw [show 2 + (m + 1) - 1 = m + 1 + 1 by omega, List.getElem?_cons_succ, List.getElem?_cons_succ]
      simpa using this
    by_cases h2 : multi = false ∧ c = q
    · rw [scan, if_neg h1, if_pos h2]
      simp [h2.2]
    by_cases h3 : multi = true ∧ pre3 q (c :: d :: r) = true
    · have hl := pre3_len h3.2
      match r, hl with
      | e :: r', _ =>
        rw [scan, if_neg h1, if_neg h2, if_pos h3] at h ⊢
        simp only [List.drop_succ_cons, List.drop_zero] at h ⊢
        have hq := h3.2
        rw [pre3_cons] at hq
        generalize hk : run q 2 r' = k at h ⊢
        cases k with
        | zero => simp [hq.2.2]
        | succ k =>
          rw [show 3 + (k + 1) - 1 = k + 1 + 1 + 1 by omega, List.getElem?_cons_succ, List.getElem?_cons_succ, List.getElem?_cons_succ]
          exact run_last q 2 r' k (by omega)
    · rw [scan, if_neg h1, if_neg h2, if_neg h3] at h ⊢
      have := ih2 (by simp at h ⊢; omega)
      obtain ⟨m, hm⟩ : ∃ m, scan esc multi q (d :: r) = m + 1 := ⟨scan esc multi q (d :: r) - 1, by omega⟩
      rw [hm] at this ⊢
      rw [show 1 + (m + 1) - 1 = m + 1 by omega, List.getElem?_cons_succ]
      simpa using this

/-! ### the law's four parts -/
theorem strEnd_last (q : UInt8) (t : List UInt8) {i : Nat} (h : strEnd q t i < t.length) : t[strEnd q t i - 1]? = some q := by
  unfold strEnd at h ⊢
  split at h
  · rename_i hp
    rw [if_pos hp]
    have hs : scan (decide (q = 34)) true q (t.drop (i + 3)) < (t.drop (i + 3)).length := by simp; omega
    have h1 := scan_last (decide (q = 34)) true q (t.drop (i + 3)) hs
    have h2 := scan_pos (decide (q = 34)) true q (t.drop (i + 3)) (by omega)
    rw [List.getElem?_drop] at h1
    rw [show i + 3 + scan (decide (q = 34)) true q (t.drop (i + 3)) - 1 = i + 3 + (scan (decide (q = 34)) true q (t.drop (i + 3)) - 1) by omega]
    exact h1
  · rename_i hp
    rw [if_neg hp]
    have hs : scan (decide (q = 34)) false q (t.drop (i + 1)) < (t.drop (i + 1)).length := by simp; omega
    have h1 := scan_last (decide (q = 34)) false q (t.drop (i + 1)) hs
    have h2 := scan_pos (decide (q = 34)) false q (t.drop (i + 1)) (by omega)
    rw [List.getElem?_drop] at h1
    rw [show i + 1 + scan (decide (q = 34)) false q (t.drop (i + 1)) - 1 = i + 1 + (scan (decide (q = 34)) false q (t.drop (i + 1)) - 1) by omega]
    exact h1

theorem strEnd_cut (q : UInt8) (t : List UInt8) (i : Nat) : strEnd q (t.take (strEnd q t i)) i = strEnd q t i := by
  by_cases hp : pre3 q (t.drop i) = true
  · have e : strEnd q t i = i + 3 + scan (decide (q = 34)) true q (t.drop (i + 3)) := by rw [strEnd, if_pos hp]
    generalize hr : strEnd q t i = r at *
    have hp' : pre3 q ((t.take r).drop i) = true := by
      rw [List.drop_take]
      exact pre3_take_of (by omega) hp
    rw [strEnd, if_pos hp', List.drop_take, show r - (i + 3) = scan (decide (q = 34)) true q (t.drop (i + 3)) by omega, scan_take]
    omega
  · have e : strEnd q t i = i + 1 + scan (decide (q = 34)) false q (t.drop (i + 1)) := by rw [strEnd, if_neg hp]
    generalize hr : strEnd q t i = r at *
    have hp' : ¬ pre3 q ((t.take r).drop i) = true := by
      rw [List.drop_take]
      exact fun h => hp (pre3_take h)
    rw [strEnd, if_neg hp', List.drop_take, show r - (i + 1) = scan (decide (q = 34)) false q (t.drop (i + 1)) by omega, scan_take]
    omega

theorem strEnd_suffix (q : UInt8) (t s : List UInt8) {i : Nat} (h : strEnd q t i < t.length) : strEnd q (t ++ s) i = strEnd q t i := by
  by_cases hp : pre3 q (t.drop i) = true
  · have e : strEnd q t i = i + 3 + scan (decide (q = 34)) true q (t.drop (i + 3)) := by rw [strEnd, if_pos hp]
    have h3 := pre3_len hp
    simp at h3
    rw [e] at h ⊢
    rw [strEnd, List.drop_append_of_le_length (by omega), List.drop_append_of_le_length (by omega), if_pos (by rw [pre3_append (by simp; omega)]; exact hp), scan_append _ _ _ _ _ (by simp; omega)]
  · have e : strEnd q t i = i + 1 + scan (decide (q = 34)) false q (t.drop (i + 1)) := by rw [strEnd, if_neg hp]
    rw [e] at h ⊢
    have h2 : 2 ≤ (t.drop (i + 1)).length := by
      have hs : scan (decide (q = 34)) false q (t.drop (i + 1)) < (t.drop (i + 1)).length := by simp; omega
      match hl : t.drop (i + 1) with
      | [] => rw [hl] at hs; simp [scan] at hs
      | [_] => rw [hl] at hs; simp [scan] at hs
      | _ :: _ :: _ => simp
    simp at h2
    rw [strEnd, List.drop_append_of_le_length (by omega), List.drop_append_of_le_length (by omega), List.drop_append_of_le_length (by omega), if_neg (by rw [pre3_append (by simp; omega)]; exact hp), scan_append _ _ _ _ _ (by simp; omega)]
end Go.Proofs.Qxb6601476a
