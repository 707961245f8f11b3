/-
  Seat b6601626aD. The decimal numeral read back: plain facts. No Go in sight.
-/
import Derived.Lib.ItoaNum
import Derived.Lib.ItoaLen
namespace Go.Proofs.Qxb6601626aDoor
open Go.Lib

/-- What a list of digits is worth. -/
def val (l : List UInt8) : Nat := l.foldl (fun a c => a * 10 + (c.toNat - 48)) 0

theorem val_snoc (l : List UInt8) (c : UInt8) : val (l ++ [c]) = val l * 10 + (c.toNat - 48) := by simp [val, List.foldl_append]
theorem val_nil : val [] = 0 := rfl

theorem fold_ge (l : List UInt8) : ∀ a : Nat, a ≤ l.foldl (fun a c => a * 10 + (c.toNat - 48)) a := by
  induction l with
  | nil => intro a; simp
  | cons c l ih => intro a; have := ih (a * 10 + (c.toNat - 48)); simp only [List.foldl_cons]; omega

theorem val_take_le (l : List UInt8) (k : Nat) : val (l.take k) ≤ val l := by
  have h : val l = (l.drop k).foldl (fun a c => a * 10 + (c.toNat - 48)) (val (l.take k)) := by
    unfold val
    rw [← List.foldl_append, List.take_append_drop]
  rw [h]
  exact fold_ge _ _

theorem digit_toNat {d : Nat} (h : d < 10) : (UInt8.ofNat (48 + d)).toNat = 48 + d := by
  rw [UInt8.toNat_ofNat']
  omega

/-- The digits of u: bytes of digits, worth u, no leading nought. -/
theorem dec_facts (u : Nat) : (∀ c ∈ decDigits u, 48 ≤ c.toNat ∧ c.toNat ≤ 57) ∧ val (decDigits u) = u ∧ 1 ≤ (decDigits u).length ∧ (1 ≤ u → ∃ c r, decDigits u = c :: r ∧ 49 ≤ c.toNat) := by
  induction u using Nat.strongRecOn with
  | _ u ih =>
    by_cases h : u < 10
    · rw [decDigits_one h]
      refine ⟨fun c hc => ?_, ?_, by simp, fun h1 => ⟨_, _, rfl, ?_⟩⟩
      · rw [List.mem_singleton] at hc
        rw [hc, digit_toNat h]
        omega
      · simp only [val, List.foldl_cons, List.foldl_nil]
        rw [digit_toNat h]
        omega
      · rw [digit_toNat h]
        omega
    · obtain ⟨i1, i2, i3, i4⟩ := ih (u / 10) (by omega)
      have hd : decDigits u = decDigits (u / 10) ++ [UInt8.ofNat (48 + u % 10)] := by rw [decDigits, dif_neg h]
      have hm : u % 10 < 10 := Nat.mod_lt _ (by omega)
      rw [hd]
      refine ⟨fun c hc => ?_, ?_, by simp, fun _ => ?_⟩
      · rcases List.mem_append.1 hc with hc | hc
        · exact i1 c hc
        · rw [List.mem_singleton] at hc
          rw [hc, digit_toNat hm]
          omega
      · rw [val_snoc, i2, digit_toNat hm]
        omega
      · obtain ⟨c, r, e, hc⟩ := i4 (by omega)
        exact ⟨c, r ++ [UInt8.ofNat (48 + u % 10)], by rw [e]; rfl, hc⟩

/-- What is read behind p digits. -/
def readTo (u p : Nat) : Nat := val ((decDigits u).take p)
theorem readTo_zero (u : Nat) : readTo u 0 = 0 := by simp [readTo, val_nil]
theorem readTo_le (u p : Nat) : readTo u p ≤ u := by
  have := val_take_le (decDigits u) p
  rw [(dec_facts u).2.1] at this
  exact this
theorem readTo_end (u : Nat) {p : Nat} (h : (decDigits u).length ≤ p) : readTo u p = u := by
  rw [readTo, List.take_of_length_le h, (dec_facts u).2.1]
theorem readTo_step (u : Nat) {p : Nat} (h : p < (decDigits u).length) : readTo u (p + 1) = readTo u p * 10 + ((decDigits u)[p].toNat - 48) := by
  unfold readTo
  rw [List.take_succ_eq_append_getElem h, val_snoc]
theorem dec_digit (u : Nat) {p : Nat} (h : p < (decDigits u).length) : 48 ≤ (decDigits u)[p].toNat ∧ (decDigits u)[p].toNat ≤ 57 := (dec_facts u).1 _ (List.getElem_mem h)
theorem dec_zero : decDigits 0 = [48] := by rw [decDigits_one (by omega)]; rfl
end Go.Proofs.Qxb6601626aDoor
