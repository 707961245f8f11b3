/-
  Seat b6601476a. FnStringEndMatchesGrammarModel (F3), modelStringEnd (F8), quoteRun (F12), evenBackslashesBefore (F13): the walks.
-/
import Derived.Test.Qxb6601476aShift
import Derived.Test.Qxb6601476aModelPlain
namespace Go.Proofs.Qxb6601476a
open Go.RowKit

/-! ### quoteRun -/
def RunPost (r : Nat) (w : World) (e : Ending) (w' : World) : Prop := e = .returned (.int .i64 (r : Int)) ∧ w' = w
theorem runPost_of {r q : Nat} {w : World} (h : r = q) : RunPost r w (.returned (.int .i64 (q : Int))) w := ⟨by rw [h], rfl⟩

set_option maxHeartbeats 400000 in
theorem quoteRun_any (s : ByteArray) (J : Nat) (q : UInt8) (L : Nat) (w : World) (hs : s.size ≤ 1048576) (hJ : J ≤ s.size) (hL : L ≤ 5) :
    Calls Try.prog 12 #[.string s, .int .i64 J, .int .u8 (q.toNat : Int), .int .i64 L] w fun e w' => RunPost (runB q L s J) w e w' := by
  generalize hqi : (q.toNat : Int) = qi
  have HQ : Hid ((q.toNat : Int) = qi) := hqi
  clear hqi
  go_enter Try.func12, Try.ntmps12
  go_wp2
  go_loop [9] (fun v => ∃ m : Nat, m ≤ L ∧ J + m ≤ s.size ∧ v = .int .i64 m ∧ runB q L s J = m + runB q (L - m) s (J + m)) (fun v => L - (intOf v).toNat)
  case atStart => exact ⟨0, by omega, by omega, rfl, by simp⟩
  case round =>
    obtain ⟨m, hm1, hm2, rfl, hR⟩ := hrel
    have HR : Hid (runB q L s J = m + runB q (L - m) s (J + m)) := hR
    clear hR
    by_cases h1 : m < L
    · by_cases h2 : J + m < s.size
      · have h2i : (J : Int) + (m : Int) < (s.size : Int) := by omega
        by_cases hc : (s[J + m].toNat : Int) = qi
        · have HS : Hid (runB q L s J = m + 1 + runB q (L - (m + 1)) s (J + (m + 1))) := by
            show runB q L s J = _
            rw [HR.out, show L - m = (L - (m + 1)) + 1 by omega, b_run_yes q _ s h2 (by rw [HQ.out]; exact hc), show J + m + 1 = J + (m + 1) by omega]
            omega
          go_wp2
          go_round
          case rel => exact ⟨m + 1, by omega, by omega, by go_num, HS.out⟩
          case measure => simp [intOf]; omega
        · have hcb : ((s[J + m].toNat : Int) == qi) = false := by simpa using hc
          have HS : Hid (runB q L s J = m) := by
            show runB q L s J = m
            rw [HR.out, show L - m = (L - (m + 1)) + 1 by omega, b_run_no q _ s h2 (by rw [HQ.out]; exact hc)]
            omega
          clear hc
          go_wp2
          go_ret
          exact runPost_of HS.out
      · have h2i : ¬ (J : Int) + (m : Int) < (s.size : Int) := by omega
        have HS : Hid (runB q L s J = m) := by
          show runB q L s J = m
          rw [HR.out, b_run_end q _ s (by omega)]
          omega
        go_wp2
        go_ret
        exact runPost_of HS.out
    · have HS : Hid (runB q L s J = m) := by
        show runB q L s J = m
        rw [HR.out, show L - m = 0 by omega, b_run_zero]
        omega
      go_wp2
      go_ret
      exact runPost_of HS.out

/-! ### evenBackslashesBefore -/
def bslB (s : ByteArray) (st j : Nat) : Nat := bsl s.data.toList st j
theorem b_bsl_yes (s : ByteArray) {st j : Nat} (h : j < s.size) (hst : st ≤ j) (hc : (s[j].toNat : Int) = 92) : bslB s st (j + 1) = 1 + bslB s st j := by
  unfold bslB
  rw [bsl, if_pos ⟨hst, by rw [List.getElem?_eq_getElem (by rw [len_eq]; exact h), byte_eq s h]; exact congrArg some (byte_of_int hc)⟩]
theorem b_bsl_no (s : ByteArray) {st j : Nat} (h : j < s.size) (hc : ¬ (s[j].toNat : Int) = 92) : bslB s st (j + 1) = 0 := by
  unfold bslB
  rw [bsl, if_neg]
  rintro ⟨_, h2⟩
  rw [List.getElem?_eq_getElem (by rw [len_eq]; exact h), byte_eq s h] at h2
  exact hc (by rw [Option.some.inj h2]; rfl)
theorem b_bsl_start (s : ByteArray) (st : Nat) : bslB s st st = 0 := by
  unfold bslB
  cases st with
  | zero => rfl
  | succ j => rw [bsl, if_neg]; rintro ⟨h, _⟩; omega
theorem bsl_le (t : List UInt8) (st : Nat) : ∀ j, bsl t st j ≤ j
  | 0 => by simp [bsl]
  | j + 1 => by
    have := bsl_le t st j
    unfold bsl
    split <;> omega

def evenB (s : ByteArray) (st j : Nat) : Bool := decide (bslB s st j % 2 = 0)
def EvenPost (b : Bool) (w : World) (e : Ending) (w' : World) : Prop := e = .returned (.bool b) ∧ w' = w

theorem even_val {n m : Nat} (h : n = m) : (((m : Int) % 2 == 0) : Bool) = decide (n % 2 = 0) := by
  subst h
  rw [Bool.eq_iff_iff]
  simp
  omega

set_option maxHeartbeats 400000 in
theorem even_any (s : ByteArray) (fi ji : Int) (st J : Nat) (w : World) (hs : s.size ≤ 1048576) (hf : fi = st) (hj : ji = J) (hst : st ≤ J) (hJ : J ≤ s.size) :
    Calls Try.prog 13 #[.string s, .int .i64 fi, .int .i64 ji] w fun e w' => EvenPost (evenB s st J) w e w' := by
  subst hf
  subst hj
  go_enter Try.func13, Try.ntmps13
  go_wp2
  go_loop [7, 8] (fun v u => ∃ m : Nat, m + st ≤ J ∧ v = .int .i64 m ∧ u = .int .i64 ((J : Int) - 1 - m) ∧ bslB s st J = m + bslB s st (J - m)) (fun v _ => J - (intOf v).toNat)
  case atStart => exact ⟨0, by omega, rfl, by go_num, by simp⟩
  case round =>
    obtain ⟨m, hm, rfl, rfl, hR⟩ := hrel
    have HR : Hid (bslB s st J = m + bslB s st (J - m)) := hR
    clear hR
    by_cases h1 : m + st < J
    · obtain ⟨p, hp⟩ : ∃ p, J = p + 1 + m := ⟨J - 1 - m, by omega⟩
      have hpi : (J : Int) - 1 - (m : Int) = (p : Int) := by omega
      have hp1 : J - m = p + 1 := by omega
      have hps : p < s.size := by omega
      have hstp : st ≤ p := by omega
      have HP : Hid (J = p + 1 + m ∧ J - m = p + 1) := ⟨hp, hp1⟩
      rw [hpi]
      clear hp hp1 hpi
      by_cases hc : (s[p].toNat : Int) = 92
      · have HS : Hid (bslB s st J = (m + 1) + bslB s st (J - (m + 1))) := by
          show bslB s st J = _
          rw [HR.out, HP.out.2, b_bsl_yes s hps hstp hc, show J - (m + 1) = p by have := HP.out; omega]
          omega
        go_wp2
        go_round
        case rel => exact ⟨m + 1, by have := HP.out; omega, by go_num, congrArg (Value.int .i64) (by have := HP.out; omega), HS.out⟩
        case measure => have := HP.out; simp [intOf]; omega
      · have hcb : ((s[p].toNat : Int) == 92) = false := by simpa using hc
        have HS : Hid (bslB s st J = m) := by
          show bslB s st J = m
          rw [HR.out, HP.out.2, b_bsl_no s hps hc]
          omega
        clear hc
        go_wp2
        go_ret
        exact ⟨by rw [evenB, ← even_val HS.out]; simp, rfl⟩
    · have HS : Hid (bslB s st J = m) := by
        show bslB s st J = m
        rw [HR.out, show J - m = st by omega, b_bsl_start]
        omega
      have hx : ¬ (st : Int) ≤ (J : Int) - 1 - (m : Int) := by omega
      go_wp2
      go_ret
      exact ⟨by rw [evenB, ← even_val HS.out]; simp, rfl⟩
end Go.Proofs.Qxb6601476a
