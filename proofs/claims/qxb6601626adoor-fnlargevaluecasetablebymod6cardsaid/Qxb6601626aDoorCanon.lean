/-
  Seat b6601626aD. magnitudeOf (F12), isCanonicalDecimalOf (F7) at the numeral of an int: the walks.
-/
import Derived.Test.Qxb6601626aDoorParse
namespace Go.Proofs.Qxb6601626aDoor
open Go.RowKit Go.Lib

/-- A text as a Go string. -/
def txt (l : List UInt8) : ByteArray := ⟨l.toArray⟩
theorem txt_size (l : List UInt8) : (txt l).size = l.length := by simp [txt, ByteArray.size]
theorem txt_byte (l : List UInt8) {p : Nat} (h : p < l.length) : (txt l)[p]'(by rw [txt_size]; exact h) = l[p] := by
  simp [txt, ByteArray.getElem_eq_getElem_data]

theorem reads_pos (u : Nat) : Reads (txt (decDigits u)) 0 (readTo u) u := by
  refine ⟨readTo_zero u, readTo_le u, by rw [txt_size]; exact readTo_end u (Nat.le_refl _), fun p h _ => ?_⟩
  rw [txt_size] at h
  have h1 := dec_digit u h
  have h2 := readTo_step u h
  rw [txt_byte _ h]
  omega

theorem reads_neg (u : Nat) : Reads (txt (45 :: decDigits u)) 1 (fun p => readTo u (p - 1)) u := by
  refine ⟨readTo_zero u, fun p => readTo_le u _, by rw [txt_size]; exact readTo_end u (by simp), fun p h h1 => ?_⟩
  rw [txt_size] at h
  obtain ⟨m, rfl⟩ : ∃ m, p = m + 1 := ⟨p - 1, by omega⟩
  have hm : m < (decDigits u).length := by simpa using h
  have h1 := dec_digit u hm
  have h2 := readTo_step u hm
  have e : (txt (45 :: decDigits u))[m + 1]'(by rw [txt_size]; exact h) = (decDigits u)[m] := by rw [txt_byte _ h]; rfl
  rw [e]
  simp only [Nat.add_sub_cancel]
  omega

theorem dec_len (u : Nat) (h : u ≤ 9223372036854775808) : (decDigits u).length ≤ 21 := by
  by_cases hu : u ≤ 9223372036854775807
  · have := itoa_length_le (u : Int) (by omega) (by omega)
    unfold itoa at this
    rw [if_neg (by omega)] at this
    simpa using this
  · have e : u = 9223372036854775808 := by omega
    have := itoa_length_le (-9223372036854775808) (by omega) (by omega)
    unfold itoa at this
    rw [if_pos (by omega)] at this
    simp only [List.length_cons] at this
    have e2 : (-9223372036854775808 : Int).natAbs = u := by rw [e]; rfl
    rw [e2] at this
    omega

theorem parse_nat (u : Nat) (w : World) (h : u ≤ 9223372036854775808) : Calls Tryd.prog 11 #[.string (txt (decDigits u))] w fun e w' => ParsePost false u w e w' := by
  have hl := (dec_facts u).2.2.1
  refine parse_pos _ _ u w (by rw [txt_size]; have := dec_len u h; omega) (by rw [txt_size]; exact hl) (reads_pos u) h (fun h48 => ?_)
  rw [txt_size]
  by_cases hu : 1 ≤ u
  · obtain ⟨c, r, e, hc⟩ := (dec_facts u).2.2.2 hu
    rw [txt_byte _ (by omega)] at h48
    have : (decDigits u)[0]'(by omega) = c := by simp [e]
    rw [this] at h48
    omega
  · have : u = 0 := by omega
    rw [this, dec_zero]
    rfl

theorem parse_min (u : Nat) (w : World) (h : u ≤ 9223372036854775808) (h1 : 1 ≤ u) : Calls Tryd.prog 11 #[.string (txt (45 :: decDigits u))] w fun e w' => ParsePost true u w e w' := by
  have hl := (dec_facts u).2.2.1
  obtain ⟨c, r, e, hc⟩ := (dec_facts u).2.2.2 h1
  refine parse_neg _ _ u w (by rw [txt_size]; have := dec_len u h; simp; omega) (by rw [txt_size]; simp; omega) (reads_neg u) h h1 ?_ ?_
  · rw [txt_byte _ (by simp)]; rfl
  · rw [txt_byte _ (by simp; omega)]
    have : (45 :: decDigits u)[1]'(by simp; omega) = c := by simp [e]
    rw [this]
    omega

/-! ### magnitudeOf -/
def MagPost (neg : Bool) (u : Nat) (w : World) (e : Ending) (w' : World) : Prop := e = .returned (.tuple #[.bool neg, .int .u64 (u : Int)]) ∧ w' = w

set_option maxHeartbeats 400000 in
theorem mag_nat (u : Nat) (w : World) (h : u ≤ 9223372036854775807) : Calls Tryd.prog 12 #[.int .i64 u] w fun e w' => MagPost false u w e w' := by
  go_enter Tryd.func12, Tryd.ntmps12
  go_wp2
  go_ret2
  exact ⟨by simp, rfl⟩

set_option maxHeartbeats 400000 in
theorem mag_min (n : Int) (u : Nat) (w : World) (h0 : -9223372036854775808 ≤ n) (h1 : n < 0) (hu : n = -(u : Int)) : Calls Tryd.prog 12 #[.int .i64 n] w fun e w' => MagPost true u w e w' := by
  have HU : Hid (n = -(u : Int)) := hu
  clear hu
  go_enter Tryd.func12, Tryd.ntmps12
  go_wp2
  go_ret2
  have e : -(n + 1) + 1 = (u : Int) := by have := HU.out; omega
  exact ⟨by rw [← e]; rfl, rfl⟩

/-! ### isCanonicalDecimalOf -/
def CanonPost (w : World) (e : Ending) (w' : World) : Prop := e = .returned (.bool true) ∧ w' = w

set_option maxHeartbeats 400000 in
theorem canon_core (s : ByteArray) (n : Int) (neg : Bool) (u : Nat) (w : World) (h11 : Calls Tryd.prog 11 #[.string s] w fun e w' => ParsePost neg u w e w') (h12 : Calls Tryd.prog 12 #[.int .i64 n] w fun e w' => MagPost neg u w e w') :
    Calls Tryd.prog 7 #[.string s, .int .i64 n] w fun e w' => CanonPost w e w' := by
  cases neg
  all_goals
    go_enter Tryd.func7, Tryd.ntmps7
    go_wp2_with fail
    refine h11.mono ?_
    rintro e w1 ⟨rfl, hw1⟩
    subst hw1
    clear h11
    go_wp2_with fail
    refine h12.mono ?_
    rintro e w2 ⟨rfl, hw2⟩
    subst hw2
    clear h12
    go_wp2
    go_ret
    exact ⟨by simp, rfl⟩

/-- isCanonicalDecimalOf the numeral of n, at n. -/
theorem canon_any (n : Int) (w : World) (h0 : -9223372036854775808 ≤ n) (h1 : n ≤ 9223372036854775807) : Calls Tryd.prog 7 #[.string (txt (itoa n)), .int .i64 n] w fun e w' => CanonPost w e w' := by
  by_cases hn : n < 0
  · have e : itoa n = 45 :: decDigits n.natAbs := by unfold itoa; rw [if_pos hn]
    rw [e]
    exact canon_core _ n true n.natAbs w (parse_min n.natAbs w (by omega) (by omega)) (mag_min n n.natAbs w h0 hn (by omega))
  · have e : itoa n = decDigits n.toNat := by unfold itoa; rw [if_neg hn]
    rw [e]
    have h := canon_core (txt (decDigits n.toNat)) (n.toNat : Int) false n.toNat w (parse_nat n.toNat w (by omega)) (mag_nat n.toNat w (by omega))
    rw [show (n.toNat : Int) = n by omega] at h
    exact h
end Go.Proofs.Qxb6601626aDoor
