/-
  Seat b6601626aD. parseCanonicalDecimal (F11), magnitudeOf (F12), isCanonicalDecimalOf (F7): the walks.
-/
import Derived.Test.Qxb6601626aDoorRows
import Derived.Test.Qxb6601626aDoorPlain
import Derived.WalkKit
import Derived.WalkSpells
import Derived.WalkLawsBesides
namespace Go.Proofs.Qxb6601626aDoor
open Go.RowKit

/-- From the place k0 on s holds digits; A p is what is read behind the place p; the whole is worth U. -/
structure Reads (s : ByteArray) (k0 : Nat) (A : Nat → Nat) (U : Nat) : Prop where
  start : A k0 = 0
  le : ∀ p, A p ≤ U
  fin : A s.size = U
  digit : ∀ p (h : p < s.size), k0 ≤ p → 48 ≤ (s[p].toNat : Int) ∧ (s[p].toNat : Int) ≤ 57 ∧ (A (p + 1) : Int) = (A p : Int) * 10 + ((s[p].toNat : Int) - 48)

def ParsePost (neg : Bool) (u : Nat) (w : World) (e : Ending) (w' : World) : Prop := e = .returned (.tuple #[.bool neg, .int .u64 (u : Int), .bool true]) ∧ w' = w
theorem not_empty {s : ByteArray} (h : 1 ≤ s.size) : ¬ s = ByteArray.empty := fun e => by rw [e] at h; simp at h

set_option maxHeartbeats 800000 in
theorem parse_pos (s : ByteArray) (A : Nat → Nat) (U : Nat) (w : World) (hs : s.size ≤ 100) (h1 : 1 ≤ s.size) (hR : Reads s 0 A U) (hU : U ≤ 9223372036854775808) (hz : (s[0].toNat : Int) = 48 → s.size = 1) :
    Calls Tryd.prog 11 #[.string s] w fun e w' => ParsePost false U w e w' := by
  have HR : Hid (Reads s 0 A U) := hR
  have h0 := hR.digit 0 (by omega) (by omega)
  have h45 : ((s[0].toNat : Int) == 45) = false := beq_eq_false_iff_ne.2 (by omega)
  have hne := not_empty h1
  have hpos : 0 < s.size := by omega
  clear hR h0
  have hlead : ((s[0].toNat : Int) == 48) = false ∨ (((s[0].toNat : Int) == 48) = true ∧ s.size = 1) := by
    by_cases e : (s[0].toNat : Int) = 48
    · exact Or.inr ⟨beq_iff_eq.2 e, hz e⟩
    · exact Or.inl (beq_eq_false_iff_ne.2 e)
  clear hz
  rcases hlead with hl | ⟨hl0, hl⟩
  · go_enter Tryd.func11, Tryd.ntmps11
    go_wp2
    clear hl h45
    go_loop [8, 9] (fun v u => ∃ P : Nat, 0 ≤ P ∧ P ≤ s.size ∧ u = .int .i64 P ∧ v = .int .u64 (A P : Nat)) (fun _ u => s.size - (intOf u).toNat)
    case atStart => exact ⟨0, by omega, by omega, rfl, by rw [HR.out.start]; rfl⟩
    case round =>
      obtain ⟨P, hP0, hP1, rfl, rfl⟩ := hrel
      by_cases hlt : P < s.size
      · obtain ⟨hd1, hd2, hd3⟩ := HR.out.digit P hlt hP0
        have hle := HR.out.le (P + 1)
        have hb : (A P : Int) ≤ 922337203685477580 := by omega
        have H3 : Hid ((A (P + 1) : Int) = (A P : Int) * 10 + ((s[P].toNat : Int) - 48)) := hd3
        clear hd3 hle
        generalize A P = a at *
        go_wp2
        go_round
        case rel => exact ⟨P + 1, by omega, by omega, by go_num, congrArg (Value.int .u64) (by rw [H3.out])⟩
        case measure => simp [intOf]; omega
      · have hPe : P = s.size := by omega
        have HA : Hid (A P = U) := by
          show A P = U
          rw [hPe]; exact HR.out.fin
        clear hPe
        generalize A P = a at *
        go_wp2
        go_ret3
        exact ⟨by rw [← HA.out]; rfl, rfl⟩
  · have hl2 : ¬ (1 : Int) < (s.size : Int) := by omega
    have hl3 : decide ((1 : Int) < (s.size : Int)) = false := decide_eq_false hl2
    have HL : Hid (s.size = 1) := hl
    clear hl
    go_enter Tryd.func11, Tryd.ntmps11
    go_wp2
    clear h45 hl0
    go_loop [8, 9] (fun v u => ∃ P : Nat, 0 ≤ P ∧ P ≤ s.size ∧ u = .int .i64 P ∧ v = .int .u64 (A P : Nat)) (fun _ u => s.size - (intOf u).toNat)
    case atStart => exact ⟨0, by omega, by omega, rfl, by rw [HR.out.start]; rfl⟩
    case round =>
      obtain ⟨P, hP0, hP1, rfl, rfl⟩ := hrel
      by_cases hlt : P < s.size
      · obtain ⟨hd1, hd2, hd3⟩ := HR.out.digit P hlt hP0
        have hle := HR.out.le (P + 1)
        have hb : (A P : Int) ≤ 922337203685477580 := by omega
        have H3 : Hid ((A (P + 1) : Int) = (A P : Int) * 10 + ((s[P].toNat : Int) - 48)) := hd3
        clear hd3 hle
        generalize A P = a at *
        go_wp2
        go_round
        case rel => exact ⟨P + 1, by omega, by omega, by go_num, congrArg (Value.int .u64) (by rw [H3.out])⟩
        case measure => simp [intOf]; omega
      · have hPe : P = s.size := by omega
        have HA : Hid (A P = U) := by
          show A P = U
          rw [hPe]; exact HR.out.fin
        clear hPe
        generalize A P = a at *
        go_wp2
        go_ret3
        exact ⟨by rw [← HA.out]; rfl, rfl⟩

set_option maxHeartbeats 800000 in
theorem parse_neg (s : ByteArray) (A : Nat → Nat) (U : Nat) (w : World) (hs : s.size ≤ 100) (h1 : 2 ≤ s.size) (hR : Reads s 1 A U) (hU : U ≤ 9223372036854775808) (hU1 : 1 ≤ U) (h45 : (s[0].toNat : Int) = 45) (hz : ¬ (s[1].toNat : Int) = 48) :
    Calls Tryd.prog 11 #[.string s] w fun e w' => ParsePost true U w e w' := by
  have HR : Hid (Reads s 1 A U) := hR
  have hl : ((s[1].toNat : Int) == 48) = false := beq_eq_false_iff_ne.2 hz
  have hne := not_empty (by omega : 1 ≤ s.size)
  have hpos : 0 < s.size := by omega
  clear hR hz
  · go_enter Tryd.func11, Tryd.ntmps11
    go_wp2
    clear hl h45
    go_loop [8, 9] (fun v u => ∃ P : Nat, 1 ≤ P ∧ P ≤ s.size ∧ u = .int .i64 P ∧ v = .int .u64 (A P : Nat)) (fun _ u => s.size - (intOf u).toNat)
    case atStart => exact ⟨1, by omega, by omega, rfl, by rw [HR.out.start]; rfl⟩
    case round =>
      obtain ⟨P, hP0, hP1, rfl, rfl⟩ := hrel
      by_cases hlt : P < s.size
      · obtain ⟨hd1, hd2, hd3⟩ := HR.out.digit P hlt hP0
        have hle := HR.out.le (P + 1)
        have hb : (A P : Int) ≤ 922337203685477580 := by omega
        have H3 : Hid ((A (P + 1) : Int) = (A P : Int) * 10 + ((s[P].toNat : Int) - 48)) := hd3
        clear hd3 hle
        generalize A P = a at *
        go_wp2
        go_round
        case rel => exact ⟨P + 1, by omega, by omega, by go_num, congrArg (Value.int .u64) (by rw [H3.out])⟩
        case measure => simp [intOf]; omega
      · have hPe : P = s.size := by omega
        have HA : Hid (A P = U) := by
          show A P = U
          rw [hPe]; exact HR.out.fin
        clear hPe
        generalize A P = a at *
        have hax : ((a : Int) == 0) = false := beq_eq_false_iff_ne.2 (by have := HA.out; omega)
        go_wp2
        go_ret3
        exact ⟨by rw [← HA.out]; rfl, rfl⟩

end Go.Proofs.Qxb6601626aDoor
