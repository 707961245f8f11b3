/-
  Seat b6601476a. The scan and the model by positions answer alike: plain facts. No Go in sight.
-/
import Derived.Test.Qxb6601476aPlain
namespace Go.Proofs.Qxb6601476a

/-- The run of backslashes right before the place j, counted no further back than st. -/
def bsl (t : List UInt8) (st : Nat) : Nat → Nat
  | 0 => 0
  | j + 1 => if st ≤ j ∧ t[j]? = some 92 then 1 + bsl t st j else 0

theorem run3_iff (q : UInt8) (l : List UInt8) : run q 3 l = 3 ↔ pre3 q l = true := by
  match l with
  | [] => simp [run, pre3]
  | [a] =>
    simp only [run, pre3, List.isPrefixOf]
    split <;> simp
  | [a, b] =>
    simp only [run, pre3, List.isPrefixOf]
    split
    · split <;> simp
    · simp
  | a :: b :: c :: r =>
    rw [pre3_cons]
    simp only [run]
    by_cases h1 : a = q
    · by_cases h2 : b = q
      · by_cases h3 : c = q
        · simp [h1, h2, h3]
        · simp [h1, h2, h3]
      · simp [h1, h2]
    · simp [h1]

theorem run5_pre (q : UInt8) (l : List UInt8) (h : pre3 q l = true) : run q 5 l = 3 + run q 2 (l.drop 3) := by
  have h3 := pre3_len h
  match l, h3 with
  | a :: b :: c :: r, _ =>
    rw [pre3_cons] at h
    obtain ⟨h1, h2, h3⟩ := h
    rw [run, if_pos h1, run, if_pos h2, run, if_pos h3]
    simp only [List.drop_succ_cons, List.drop_zero]
    omega

/-- A string closes at the place j. -/
def Closes (esc multi : Bool) (q : UInt8) (t : List UInt8) (st j : Nat) : Prop :=
  (if multi = true then pre3 q (t.drop j) = true else t[j]? = some q) ∧ (esc = false ∨ bsl t st j % 2 = 0)

theorem not_closes_next {esc multi : Bool} {q : UInt8} {t : List UInt8} {st K : Nat} (hK : K < t.length) (hc : ¬ Closes esc multi q t st K) (he : esc = false ∨ bsl t st K % 2 = 0) (hn : ¬ (esc = true ∧ t[K] = 92)) :
    from_ esc multi q t K = from_ esc multi q t (K + 1) := by
  refine from_next esc multi q t hK hn ?_ ?_
  · rintro ⟨rfl, h2⟩
    refine hc ⟨?_, he⟩
    rw [if_neg (by simp), List.getElem?_eq_getElem hK, h2]
  · rintro ⟨rfl, h2⟩
    exact hc ⟨by rw [if_pos rfl]; exact h2, he⟩

/-- The places that the scan comes to are those before which the run of backslashes is even. -/
theorem visited (esc multi : Bool) (q : UInt8) (t : List UInt8) (st : Nat) : ∀ (n K : Nat), K ≤ n → st ≤ K → K ≤ t.length → (∀ j, st ≤ j → j < K → ¬ Closes esc multi q t st j) → (esc = false ∨ bsl t st K % 2 = 0) →
    from_ esc multi q t st = from_ esc multi q t K := by
  intro n
  induction n with
  | zero =>
    intro K hKn hst _ _ _
    have : st = K := by omega
    rw [this]
  | succ n ih =>
    intro K hKn hst hKl hno hev
    by_cases e : st = K
    · rw [e]
    obtain ⟨m, rfl⟩ : ∃ m, K = m + 1 := ⟨K - 1, by omega⟩
    have hm : m < t.length := by omega
    cases esc with
    | false =>
      rw [ih m (by omega) (by omega) (by omega) (fun j h1 h2 => hno j h1 (by omega)) (Or.inl rfl)]
      exact not_closes_next hm (hno m (by omega) (by omega)) (Or.inl rfl) (by simp)
    | true =>
      have hev' : bsl t st (m + 1) % 2 = 0 := by
        rcases hev with h | h
        · cases h
        · exact h
      by_cases hb : bsl t st m % 2 = 0
      · have hne : ¬ t[m] = 92 := by
          intro h92
          rw [bsl, if_pos ⟨by omega, by rw [List.getElem?_eq_getElem hm, h92]⟩] at hev'
          omega
        rw [ih m (by omega) (by omega) (by omega) (fun j h1 h2 => hno j h1 (by omega)) (Or.inr hb)]
        exact not_closes_next hm (hno m (by omega) (by omega)) (Or.inr hb) (by rintro ⟨_, h⟩; exact hne h)
      · cases m with
        | zero => simp [bsl] at hb
        | succ p =>
          rw [bsl] at hb
          split at hb
          · rename_i hp
            have hpl : p < t.length := by omega
            have hp92 : t[p] = 92 := by
              have := hp.2
              rw [List.getElem?_eq_getElem hpl] at this
              exact Option.some.inj this
            rw [ih p (by omega) hp.1 (by omega) (fun j h1 h2 => hno j h1 (by omega)) (Or.inr (by omega))]
            exact from_esc multi q t hpl hp92
          · simp at hb

theorem model_close (esc multi : Bool) (q : UInt8) (hq : q ≠ 92) (t : List UInt8) {st J : Nat} (hst : st ≤ J) (hJ : J < t.length) (hno : ∀ j, st ≤ j → j < J → ¬ Closes esc multi q t st j) (hc : Closes esc multi q t st J) :
    from_ esc multi q t st = if multi = true then J + run q 5 (t.drop J) else J + 1 := by
  rw [visited esc multi q t st J J (Nat.le_refl _) hst (by omega) hno hc.2]
  cases multi with
  | true =>
    have hp : pre3 q (t.drop J) = true := by have := hc.1; rwa [if_pos rfl] at this
    have ht : t[J] = q := by
      have h3 := pre3_len hp
      have hd := hp
      rw [drop_two t hJ] at hd
      unfold pre3 at hd
      simp only [List.isPrefixOf, Bool.and_eq_true, beq_iff_eq] at hd
      exact hd.1.symm
    rw [if_pos rfl, from_close3 esc q t hJ hp (by rintro ⟨_, h⟩; exact hq (ht ▸ h)), run5_pre q _ hp, List.drop_drop]
    omega
  | false =>
    have ht : t[J] = q := by
      have := hc.1
      rw [if_neg (by simp), List.getElem?_eq_getElem hJ] at this
      exact Option.some.inj this
    rw [if_neg (by simp), from_close esc q t hJ ht (by rintro ⟨_, h⟩; exact hq (ht ▸ h))]

theorem model_end (esc multi : Bool) (q : UInt8) (t : List UInt8) {st : Nat} (hst : st ≤ t.length) (hno : ∀ j, st ≤ j → j < t.length → ¬ Closes esc multi q t st j) : from_ esc multi q t st = t.length := by
  by_cases he : esc = false ∨ bsl t st t.length % 2 = 0
  · rw [visited esc multi q t st t.length t.length (Nat.le_refl _) hst (Nat.le_refl _) hno he, from_end esc multi q t (Nat.le_refl _)]
  · have hesc : esc = true := by
      cases esc with
      | true => rfl
      | false => exact absurd (Or.inl rfl) he
    subst hesc
    have hb : ¬ bsl t st t.length % 2 = 0 := fun h => he (Or.inr h)
    generalize hn : t.length = n at hb hst hno
    cases n with
    | zero => simp [bsl] at hb
    | succ p =>
      rw [bsl] at hb
      split at hb
      · rename_i hp
        have hpl : p < t.length := by omega
        have hp92 : t[p] = 92 := by
          have := hp.2
          rw [List.getElem?_eq_getElem hpl] at this
          exact Option.some.inj this
        rw [visited true multi q t st p p (Nat.le_refl _) hp.1 (by omega) (fun j h1 h2 => hno j h1 (by omega)) (Or.inr (by omega)), from_esc multi q t hpl hp92, from_end true multi q t (by omega)]
        exact hn
      · simp at hb
end Go.Proofs.Qxb6601476a
