/-
  Seat b6601476a. modelStringEnd (F8), FnStringEndMatchesGrammarModel (F3): the walks.
-/
import Derived.Test.Qxb6601476aRuns
namespace Go.Proofs.Qxb6601476a
open Go.RowKit

/-- No place from st up to J closes the string. -/
def Open (esc multi : Bool) (q : UInt8) (s : ByteArray) (st J : Nat) : Prop := ∀ j, st ≤ j → j < J → ¬ Closes esc multi q s.data.toList st j

theorem open_start (esc multi : Bool) (q : UInt8) (s : ByteArray) (st : Nat) : Open esc multi q s st st := fun j h1 h2 => by omega
theorem open_step {esc multi : Bool} {q : UInt8} {s : ByteArray} {st J : Nat} (h : Open esc multi q s st J) (hc : ¬ Closes esc multi q s.data.toList st J) : Open esc multi q s st (J + 1) := fun j h1 h2 => by
  by_cases e : j = J
  · rw [e]; exact hc
  · exact h j h1 (by omega)
theorem open_end {esc multi : Bool} {q : UInt8} {s : ByteArray} {st : Nat} (hst : st ≤ s.size) (h : Open esc multi q s st s.size) : fromB esc multi q s st = s.size := by
  have := model_end esc multi q s.data.toList (st := st) (by rw [len_eq]; exact hst) (by rw [len_eq]; exact h)
  rw [len_eq] at this
  exact this
theorem open_close3 {esc : Bool} {q : UInt8} (hq : q ≠ 92) {s : ByteArray} {st J : Nat} (hst : st ≤ J) (hJ : J < s.size) (h : Open esc true q s st J) (hp : preB q s J = true) (he : esc = false ∨ evenB s st J = true) :
    fromB esc true q s st = J + runB q 5 s J := by
  have := model_close esc true q hq s.data.toList hst (by rw [len_eq]; exact hJ) h ⟨by rw [if_pos rfl]; exact hp, by
    rcases he with h | h
    · exact Or.inl h
    · exact Or.inr (of_decide_eq_true h)⟩
  rw [if_pos rfl] at this
  exact this
theorem open_close1 {esc : Bool} {q : UInt8} (hq : q ≠ 92) {s : ByteArray} {st J : Nat} (hst : st ≤ J) (hJ : J < s.size) (h : Open esc false q s st J) (hp : (s[J].toNat : Int) = (q.toNat : Int)) (he : esc = false ∨ evenB s st J = true) :
    fromB esc false q s st = J + 1 := by
  have := model_close esc false q hq s.data.toList hst (by rw [len_eq]; exact hJ) h ⟨by
    rw [if_neg (by simp), List.getElem?_eq_getElem (by rw [len_eq]; exact hJ), byte_eq s hJ]
    exact congrArg some (byte_of_int hp), by
    rcases he with h | h
    · exact Or.inl h
    · exact Or.inr (of_decide_eq_true h)⟩
  rw [if_neg (by simp)] at this
  exact this
theorem not_pre {esc : Bool} {q : UInt8} {s : ByteArray} {st J : Nat} (hp : preB q s J = false) : ¬ Closes esc true q s.data.toList st J := by
  rintro ⟨h, _⟩
  rw [if_pos rfl] at h
  rw [preB] at hp
  rw [hp] at h
  cases h
theorem not_quote {esc : Bool} {q : UInt8} {s : ByteArray} {st J : Nat} (hJ : J < s.size) (hp : ¬ (s[J].toNat : Int) = (q.toNat : Int)) : ¬ Closes esc false q s.data.toList st J := by
  rintro ⟨h, _⟩
  rw [if_neg (by simp), List.getElem?_eq_getElem (by rw [len_eq]; exact hJ), byte_eq s hJ] at h
  exact hp (by rw [Option.some.inj h])
theorem not_even {multi : Bool} {q : UInt8} {s : ByteArray} {st J : Nat} (he : evenB s st J = false) : ¬ Closes true multi q s.data.toList st J := by
  rintro ⟨_, h | h⟩
  · cases h
  · exact absurd h (of_decide_eq_false he)
theorem run_is3 {q : UInt8} {s : ByteArray} {J : Nat} (h : preB q s J = true) : runB q 3 s J = 3 := (run3_iff q _).2 h
theorem run_not3 {q : UInt8} {s : ByteArray} {J : Nat} (h : preB q s J = false) : ¬ runB q 3 s J = 3 := fun e => by
  have := (run3_iff q _).1 e
  rw [preB] at h
  rw [h] at this
  cases this
theorem run_bd (q : UInt8) (k : Nat) (s : ByteArray) (J : Nat) : runB q k s J ≤ k := (run_le q k _).1
theorem even_cases (s : ByteArray) (st J : Nat) : evenB s st J = true ∨ evenB s st J = false := by cases evenB s st J <;> simp

theorem qr34_3 (s : ByteArray) (J : Nat) (w : World) (hs : s.size ≤ 1048576) (hJ : J ≤ s.size) : Calls Try.prog 12 #[.string s, .int .i64 J, .int .u8 34, .int .i64 3] w fun e w' => RunPost (runB 34 3 s J) w e w' := quoteRun_any s J 34 3 w hs hJ (by omega)
theorem qr34_5 (s : ByteArray) (J : Nat) (w : World) (hs : s.size ≤ 1048576) (hJ : J ≤ s.size) : Calls Try.prog 12 #[.string s, .int .i64 J, .int .u8 34, .int .i64 5] w fun e w' => RunPost (runB 34 5 s J) w e w' := quoteRun_any s J 34 5 w hs hJ (by omega)

set_option maxHeartbeats 800000 in
theorem model34_t (s : ByteArray) (i : Nat) (w : World) (hs : s.size ≤ 1048576) (hi : i < s.size) (hq : (s[i].toNat : Int) = 34) (hm : preB 34 s i = true) :
    Calls Try.prog 8 #[.string s, .int .i64 i] w fun e w' => RunPost (fromB true true 34 s (i + 3)) w e w' := by
  have hm3 := b_pre_le hm
  have h12 := qr34_3 s i w hs (by omega)
  rw [run_is3 hm] at h12
  clear hm
  go_enter Try.func8, Try.ntmps8
  go_wp2_with fail
  refine h12.mono ?_
  rintro e w1 ⟨rfl, hw1⟩
  subst hw1
  clear h12 hq
  go_wp2
  go_loopw [8] (fun v wr => ∃ J : Nat, i + 3 ≤ J ∧ J ≤ s.size ∧ v = .int .i64 J ∧ Open true true 34 s (i + 3) J ∧ wr = w1) (fun v _ => s.size - (intOf v).toNat)
  case atStart => exact ⟨i + 3, by omega, by omega, by go_num, open_start _ _ _ _ _, rfl⟩
  case round =>
    obtain ⟨J, hJ1, hJ2, rfl, hO, hwr⟩ := hrel
    subst hwr
    have HO : Hid (Open true true 34 s (i + 3) J) := hO
    clear hO
    by_cases hlt : J < s.size
    · have h12 := qr34_3 s J wr hs (by omega)
      have HQ : Hid ((34 : UInt8) ≠ 92) := (by decide : (34 : UInt8) ≠ 92)
      rcases pre_cases 34 s J with hp | hp
      · rw [run_is3 hp] at h12
        have h13 := even_any s ((i : Int) + 3) J (i + 3) J wr hs (by omega) rfl (by omega) (by omega)
        rcases even_cases s (i + 3) J with he | he
        · rw [he] at h13
          have HS : Hid (fromB true true 34 s (i + 3) = J + runB 34 5 s J) := open_close3 HQ.out (by omega) hlt HO.out hp (Or.inr he)
          have h125 := qr34_5 s J wr hs (by omega)
          have hrb := run_bd 34 5 s J
          clear hp
          generalize runB 34 5 s J = r5 at *
          clear he
          go_wp2_with fail
          refine h12.mono ?_
          rintro e w2 ⟨rfl, hw2⟩
          subst hw2
          clear h12
          go_wp2_with fail
          refine h13.mono ?_
          rintro e w3 ⟨rfl, hw3⟩
          subst hw3
          clear h13
          go_wp2_with fail
          refine h125.mono ?_
          rintro e w4 ⟨rfl, hw4⟩
          subst hw4
          clear h125
          go_wp2
          go_ret
          exact runPost_of HS.out
        · rw [he] at h13
          have HN : Hid (Open true true 34 s (i + 3) (J + 1)) := open_step HO.out (not_even he)
          clear he hp
          go_wp2_with fail
          refine h12.mono ?_
          rintro e w2 ⟨rfl, hw2⟩
          subst hw2
          clear h12
          go_wp2_with fail
          refine h13.mono ?_
          rintro e w3 ⟨rfl, hw3⟩
          subst hw3
          clear h13
          go_wp2
          go_roundw
          case rel => exact ⟨J + 1, by omega, by omega, by go_num, HN.out, trivial⟩
          case measure => simp [intOf]; omega
      · have hr3 := run_not3 hp
        have HN : Hid (Open true true 34 s (i + 3) (J + 1)) := open_step HO.out (not_pre hp)
        have hrb := run_bd 34 3 s J
        clear hp
        generalize runB 34 3 s J = r at *
        have hrf : ((r : Int) == 3) = false := beq_eq_false_iff_ne.2 (by omega)
        go_wp2_with fail
        refine h12.mono ?_
        rintro e w2 ⟨rfl, hw2⟩
        subst hw2
        clear h12
        go_wp2
        go_roundw
        case rel => exact ⟨J + 1, by omega, by omega, by go_num, HN.out, trivial⟩
        case measure => simp [intOf]; omega
    · have hJe : J = s.size := by omega
      have HS : Hid (fromB true true 34 s (i + 3) = s.size) := open_end (by omega) (by rw [← hJe]; exact HO.out)
      clear hJe
      go_wp2
      go_ret
      exact runPost_of HS.out

set_option maxHeartbeats 800000 in
theorem model34_f (s : ByteArray) (i : Nat) (w : World) (hs : s.size ≤ 1048576) (hi : i < s.size) (hq : (s[i].toNat : Int) = 34) (hm : preB 34 s i = false) :
    Calls Try.prog 8 #[.string s, .int .i64 i] w fun e w' => RunPost (fromB true false 34 s (i + 1)) w e w' := by
  have h12 := qr34_3 s i w hs (by omega)
  have hr3 := run_not3 hm
  have hrb := run_bd 34 3 s i
  clear hm
  generalize runB 34 3 s i = r at *
  have hrf : ((r : Int) == 3) = false := beq_eq_false_iff_ne.2 (by omega)
  go_enter Try.func8, Try.ntmps8
  go_wp2_with fail
  refine h12.mono ?_
  rintro e w1 ⟨rfl, hw1⟩
  subst hw1
  clear h12 hq
  go_wp2
  clear hrf hr3 hrb
  go_loopw [9] (fun v wr => ∃ J : Nat, i + 1 ≤ J ∧ J ≤ s.size ∧ v = .int .i64 J ∧ Open true false 34 s (i + 1) J ∧ wr = w1) (fun v _ => s.size - (intOf v).toNat)
  case atStart => exact ⟨i + 1, by omega, by omega, by go_num, open_start _ _ _ _ _, rfl⟩
  case round =>
    obtain ⟨J, hJ1, hJ2, rfl, hO, hwr⟩ := hrel
    subst hwr
    have HO : Hid (Open true false 34 s (i + 1) J) := hO
    clear hO
    by_cases hlt : J < s.size
    · have HQ : Hid ((34 : UInt8) ≠ 92) := (by decide : (34 : UInt8) ≠ 92)
      by_cases hc : (s[J].toNat : Int) = 34
      · have h13 := even_any s ((i : Int) + 1) J (i + 1) J wr hs (by omega) rfl (by omega) (by omega)
        rcases even_cases s (i + 1) J with he | he
        · rw [he] at h13
          have HS : Hid (fromB true false 34 s (i + 1) = J + 1) := open_close1 HQ.out (by omega) hlt HO.out hc (Or.inr he)
          clear he
          go_wp2_with fail
          refine h13.mono ?_
          rintro e w3 ⟨rfl, hw3⟩
          subst hw3
          clear h13
          go_wp2
          go_ret
          exact runPost_of HS.out
        · rw [he] at h13
          have HN : Hid (Open true false 34 s (i + 1) (J + 1)) := open_step HO.out (not_even he)
          clear he
          go_wp2_with fail
          refine h13.mono ?_
          rintro e w3 ⟨rfl, hw3⟩
          subst hw3
          clear h13
          go_wp2
          go_roundw
          case rel => exact ⟨J + 1, by omega, by omega, by go_num, HN.out, trivial⟩
          case measure => simp [intOf]; omega
      · have hcb : ((s[J].toNat : Int) == 34) = false := by simpa using hc
        have HN : Hid (Open true false 34 s (i + 1) (J + 1)) := open_step HO.out (not_quote hlt hc)
        clear hc
        go_wp2
        go_roundw
        case rel => exact ⟨J + 1, by omega, by omega, by go_num, HN.out, trivial⟩
        case measure => simp [intOf]; omega
    · have hJe : J = s.size := by omega
      have HS : Hid (fromB true false 34 s (i + 1) = s.size) := open_end (by omega) (by rw [← hJe]; exact HO.out)
      clear hJe
      go_wp2
      go_ret
      exact runPost_of HS.out

theorem qr39_3 (s : ByteArray) (J : Nat) (w : World) (hs : s.size ≤ 1048576) (hJ : J ≤ s.size) : Calls Try.prog 12 #[.string s, .int .i64 J, .int .u8 39, .int .i64 3] w fun e w' => RunPost (runB 39 3 s J) w e w' := quoteRun_any s J 39 3 w hs hJ (by omega)
theorem qr39_5 (s : ByteArray) (J : Nat) (w : World) (hs : s.size ≤ 1048576) (hJ : J ≤ s.size) : Calls Try.prog 12 #[.string s, .int .i64 J, .int .u8 39, .int .i64 5] w fun e w' => RunPost (runB 39 5 s J) w e w' := quoteRun_any s J 39 5 w hs hJ (by omega)

set_option maxHeartbeats 800000 in
theorem model39_t (s : ByteArray) (i : Nat) (w : World) (hs : s.size ≤ 1048576) (hi : i < s.size) (hq : (s[i].toNat : Int) = 39) (hm : preB 39 s i = true) :
    Calls Try.prog 8 #[.string s, .int .i64 i] w fun e w' => RunPost (fromB false true 39 s (i + 3)) w e w' := by
  have hm3 := b_pre_le hm
  have h12 := qr39_3 s i w hs (by omega)
  rw [run_is3 hm] at h12
  clear hm
  go_enter Try.func8, Try.ntmps8
  go_wp2_with fail
  refine h12.mono ?_
  rintro e w1 ⟨rfl, hw1⟩
  subst hw1
  clear h12 hq
  go_wp2
  go_loopw [8] (fun v wr => ∃ J : Nat, i + 3 ≤ J ∧ J ≤ s.size ∧ v = .int .i64 J ∧ Open false true 39 s (i + 3) J ∧ wr = w1) (fun v _ => s.size - (intOf v).toNat)
  case atStart => exact ⟨i + 3, by omega, by omega, by go_num, open_start _ _ _ _ _, rfl⟩
  case round =>
    obtain ⟨J, hJ1, hJ2, rfl, hO, hwr⟩ := hrel
    subst hwr
    have HO : Hid (Open false true 39 s (i + 3) J) := hO
    clear hO
    by_cases hlt : J < s.size
    · have h12 := qr39_3 s J wr hs (by omega)
      have HQ : Hid ((39 : UInt8) ≠ 92) := (by decide : (39 : UInt8) ≠ 92)
      rcases pre_cases 39 s J with hp | hp
      · rw [run_is3 hp] at h12
        have HS : Hid (fromB false true 39 s (i + 3) = J + runB 39 5 s J) := open_close3 HQ.out (by omega) hlt HO.out hp (Or.inl rfl)
        have h125 := qr39_5 s J wr hs (by omega)
        have hrb := run_bd 39 5 s J
        clear hp
        generalize runB 39 5 s J = r5 at *
        go_wp2_with fail
        refine h12.mono ?_
        rintro e w2 ⟨rfl, hw2⟩
        subst hw2
        clear h12
        go_wp2_with fail
        refine h125.mono ?_
        rintro e w4 ⟨rfl, hw4⟩
        subst hw4
        clear h125
        go_wp2
        go_ret
        exact runPost_of HS.out
      · have hr3 := run_not3 hp
        have HN : Hid (Open false true 39 s (i + 3) (J + 1)) := open_step HO.out (not_pre hp)
        have hrb := run_bd 39 3 s J
        clear hp
        generalize runB 39 3 s J = r at *
        have hrf : ((r : Int) == 3) = false := beq_eq_false_iff_ne.2 (by omega)
        go_wp2_with fail
        refine h12.mono ?_
        rintro e w2 ⟨rfl, hw2⟩
        subst hw2
        clear h12
        go_wp2
        go_roundw
        case rel => exact ⟨J + 1, by omega, by omega, by go_num, HN.out, trivial⟩
        case measure => simp [intOf]; omega
    · have hJe : J = s.size := by omega
      have HS : Hid (fromB false true 39 s (i + 3) = s.size) := open_end (by omega) (by rw [← hJe]; exact HO.out)
      clear hJe
      go_wp2
      go_ret
      exact runPost_of HS.out

set_option maxHeartbeats 800000 in
theorem model39_f (s : ByteArray) (i : Nat) (w : World) (hs : s.size ≤ 1048576) (hi : i < s.size) (hq : (s[i].toNat : Int) = 39) (hm : preB 39 s i = false) :
    Calls Try.prog 8 #[.string s, .int .i64 i] w fun e w' => RunPost (fromB false false 39 s (i + 1)) w e w' := by
  have h12 := qr39_3 s i w hs (by omega)
  have hr3 := run_not3 hm
  have hrb := run_bd 39 3 s i
  clear hm
  generalize runB 39 3 s i = r at *
  have hrf : ((r : Int) == 3) = false := beq_eq_false_iff_ne.2 (by omega)
  go_enter Try.func8, Try.ntmps8
  go_wp2_with fail
  refine h12.mono ?_
  rintro e w1 ⟨rfl, hw1⟩
  subst hw1
  clear h12 hq
  go_wp2
  clear hrf hr3 hrb
  go_loopw [9] (fun v wr => ∃ J : Nat, i + 1 ≤ J ∧ J ≤ s.size ∧ v = .int .i64 J ∧ Open false false 39 s (i + 1) J ∧ wr = w1) (fun v _ => s.size - (intOf v).toNat)
  case atStart => exact ⟨i + 1, by omega, by omega, by go_num, open_start _ _ _ _ _, rfl⟩
  case round =>
    obtain ⟨J, hJ1, hJ2, rfl, hO, hwr⟩ := hrel
    subst hwr
    have HO : Hid (Open false false 39 s (i + 1) J) := hO
    clear hO
    by_cases hlt : J < s.size
    · have HQ : Hid ((39 : UInt8) ≠ 92) := (by decide : (39 : UInt8) ≠ 92)
      by_cases hc : (s[J].toNat : Int) = 39
      · have HS : Hid (fromB false false 39 s (i + 1) = J + 1) := open_close1 HQ.out (by omega) hlt HO.out hc (Or.inl rfl)
        go_wp2
        go_ret
        exact runPost_of HS.out
      · have hcb : ((s[J].toNat : Int) == 39) = false := by simpa using hc
        have HN : Hid (Open false false 39 s (i + 1) (J + 1)) := open_step HO.out (not_quote hlt hc)
        clear hc
        go_wp2
        go_roundw
        case rel => exact ⟨J + 1, by omega, by omega, by go_num, HN.out, trivial⟩
        case measure => simp [intOf]; omega
    · have hJe : J = s.size := by omega
      have HS : Hid (fromB false false 39 s (i + 1) = s.size) := open_end (by omega) (by rw [← hJe]; exact HO.out)
      clear hJe
      go_wp2
      go_ret
      exact runPost_of HS.out

/-- modelStringEnd at a quote. -/
theorem modelEnd_any (q : UInt8) (hqq : q = 34 ∨ q = 39) (s : ByteArray) (i : Nat) (w : World) (hs : s.size ≤ 1048576) (hi : i < s.size) (hq : s[i] = q) :
    Calls Try.prog 8 #[.string s, .int .i64 i] w fun e w' => RunPost (strEnd q s.data.toList i) w e w' := by
  rcases hqq with rfl | rfl
  · rcases pre_cases 34 s i with h | h
    · rw [strEnd_multi h (by rw [len_eq]; exact hi)]
      exact model34_t s i w hs hi (by rw [hq]; rfl) h
    · rw [strEnd_plain (by rw [preB] at h; rw [h]; simp) (by rw [len_eq]; exact hi)]
      exact model34_f s i w hs hi (by rw [hq]; rfl) h
  · rcases pre_cases 39 s i with h | h
    · rw [strEnd_multi h (by rw [len_eq]; exact hi)]
      exact model39_t s i w hs hi (by rw [hq]; rfl) h
    · rw [strEnd_plain (by rw [preB] at h; rw [h]; simp) (by rw [len_eq]; exact hi)]
      exact model39_f s i w hs hi (by rw [hq]; rfl) h

set_option maxHeartbeats 400000 in
theorem bytes6_any (s : ByteArray) (i : Int) (w : World) (hs : s.size ≤ maxLen) : Calls Try.prog 6 #[.string s, .int .i64 i] w fun e w' => JustBool w e w' := by
  unfold maxLen at hs
  by_cases h1 : s.size ≤ 1048576
  · go_enter Try.func6, Try.ntmps6
    go_wp2
    all_goals
      go_ret
      exact ⟨_, rfl, rfl⟩
  · go_enter Try.func6, Try.ntmps6
    go_wp2
    all_goals
      go_ret
      exact ⟨_, rfl, rfl⟩

set_option maxHeartbeats 800000 in
theorem walk3 (s : ByteArray) (i : Int) (w : World) (hs : s.size ≤ maxLen) : Calls Try.prog 3 #[.string s, .int .i64 i] w fun e w' => Post w e w' := by
  have h6 := bytes6_any s i w hs
  unfold maxLen at hs
  go_enter Try.func3, Try.ntmps3
  go_wp2_with fail
  refine h6.mono ?_
  rintro e w' ⟨b, rfl, rfl⟩
  clear h6
  cases b
  · go_wp2
    go_ret
    exact ⟨rfl, Below.refl _ _⟩
  by_cases hs1 : s.size ≤ 1048576
  case neg =>
    go_wp2
    go_ret
    exact ⟨rfl, Below.refl _ _⟩
  by_cases hi0 : i < 0
  · go_wp2
    go_ret
    exact ⟨rfl, Below.refl _ _⟩
  obtain ⟨k, rfl⟩ := Int.eq_ofNat_of_zero_le (by omega : 0 ≤ i)
  by_cases hk : k < s.size
  case neg =>
    go_wp2
    go_ret
    exact ⟨rfl, Below.refl _ _⟩
  clear hi0
  by_cases hq : (s[k].toNat : Int) = 34
  · have hc1 := fun W => zzStringEnd_any 34 (by decide) s k W hs1 hk (byte_of_int hq)
    have hc2 := fun W => modelEnd_any 34 (by decide) s k W hs1 hk (byte_of_int hq)
    generalize strEnd 34 s.data.toList k = r at *
    go_wp2_with fail
    refine (hc1 _).mono ?_
    rintro e w1 ⟨rfl, hb1⟩
    have HB1 : Hid (Below w'.heap.size w' w1) := hb1
    clear hb1 hc1
    go_wp2_with fail
    refine (hc2 _).mono ?_
    rintro e w2 ⟨rfl, hw2⟩
    subst hw2
    clear hc2
    go_wp2
    go_ret
    exact ⟨by simp, HB1.out⟩
  by_cases hq : (s[k].toNat : Int) = 39
  · have hc1 := fun W => zzStringEnd_any 39 (by decide) s k W hs1 hk (byte_of_int hq)
    have hc2 := fun W => modelEnd_any 39 (by decide) s k W hs1 hk (byte_of_int hq)
    generalize strEnd 39 s.data.toList k = r at *
    go_wp2_with fail
    refine (hc1 _).mono ?_
    rintro e w1 ⟨rfl, hb1⟩
    have HB1 : Hid (Below w'.heap.size w' w1) := hb1
    clear hb1 hc1
    go_wp2_with fail
    refine (hc2 _).mono ?_
    rintro e w2 ⟨rfl, hw2⟩
    subst hw2
    clear hc2
    go_wp2
    go_ret
    exact ⟨by simp, HB1.out⟩
  rename_i hq34
  have hb1 : ((s[k].toNat : Int) != 34) = true := by rw [bne_iff_ne]; exact hq34
  have hb2 : ((s[k].toNat : Int) != 39) = true := by rw [bne_iff_ne]; exact hq
  clear hq hq34
  go_wp2
  go_ret
  exact ⟨rfl, Below.refl _ _⟩
end Go.Proofs.Qxb6601476a
