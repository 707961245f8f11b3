/-
  Seat b6601476a. FnStringEndIsSelfContained (F5): the walk.
-/
import Derived.Test.Qxb6601476aShift
import Derived.Test.Qxb6601476aSelfPlain
import Derived.RegionTactic
import Derived.ChangeAlike
import Derived.Deep.QuietTactic
import Derived.BigQuiet
namespace Go.Proofs.Qxb6601476a
open Go.RowKit

set_option maxHeartbeats 400000 in
theorem bytes10_any (p s : ByteArray) (i : Int) (w : World) (hp : p.size ≤ maxLen) (hs : s.size ≤ maxLen) : Calls Try.prog 10 #[.string p, .string s, .int .i64 i] w fun e w' => JustBool w e w' := by
  unfold maxLen at hp hs
  by_cases h1 : p.size ≤ 1048576
  · by_cases h2 : s.size ≤ 1048576
    · go_enter Try.func10, Try.ntmps10
      go_wp2
      all_goals
        go_ret
        exact ⟨_, rfl, rfl⟩
    · go_enter Try.func10, Try.ntmps10
      go_wp2
      all_goals
        go_ret
        exact ⟨_, rfl, rfl⟩
  · go_enter Try.func10, Try.ntmps10
    go_wp2
    all_goals
      go_ret
      exact ⟨_, rfl, rfl⟩

theorem cut_list (s : ByteArray) (r : Nat) : (s.extract 0 r).data.toList = s.data.toList.take r := by
  rw [Lib.extract_data]
  simp
theorem cut_size (s : ByteArray) {r : Nat} (h : r ≤ s.size) : (s.extract 0 r).size = r := by
  have e := congrArg List.length (cut_list s r)
  rw [len_eq, List.length_take, len_eq] at e
  omega
theorem cut_byte (s : ByteArray) {r k : Nat} (h : r ≤ s.size) (hk : k < r) : (s.extract 0 r)[k]'(by rw [cut_size s h]; exact hk) = s[k] := by
  have h1 := byte_eq (s.extract 0 r) (I := k) (by rw [cut_size s h]; exact hk)
  have h2 := byte_eq s (I := k) (by omega)
  rw [← h1, ← h2]
  have h3 : (s.extract 0 r).data.toList[k]? = s.data.toList[k]? := by
    rw [cut_list, List.getElem?_take, if_pos hk]
  rw [List.getElem?_eq_getElem (by rw [len_eq, cut_size s h]; exact hk), List.getElem?_eq_getElem (by rw [len_eq]; omega)] at h3
  exact Option.some.inj h3
theorem append_byte_left (p s : ByteArray) {k : Nat} (hk : k < p.size) : (p ++ s)[k]'(by rw [append_size]; omega) = p[k] := by
  have h1 := byte_eq (p ++ s) (I := k) (by rw [append_size]; omega)
  have h2 := byte_eq p hk
  rw [← h1, ← h2]
  have h3 : (p ++ s).data.toList[k]? = p.data.toList[k]? := by
    rw [append_list, List.getElem?_append_left (by rw [len_eq]; exact hk)]
  rw [List.getElem?_eq_getElem (by rw [len_eq, append_size]; omega), List.getElem?_eq_getElem (by rw [len_eq]; exact hk)] at h3
  exact Option.some.inj h3

/-- What the law's four parts say of the calls, at a quote. -/
theorem self_calls (q : UInt8) (hqq : q = 34 ∨ q = 39) (s suf : ByteArray) (k : Nat) (hs : s.size ≤ 524288) (hf : suf.size ≤ 524288) (hk : k < s.size) (hq : s[k] = q) :
    ∃ r : Nat, k ≤ r ∧ r + 1 ≤ s.size ∧ (∀ w, Calls Try.prog 7 #[.string s, .int .i64 k] w fun e w' => EndPost (r + 1) w e w') ∧
      (∀ h : r + 1 < s.size, (s[r].toNat : Int) = (q.toNat : Int)) ∧ (∀ w, Calls Try.prog 7 #[.string (s.extract 0 (r + 1)), .int .i64 k] w fun e w' => EndPost (r + 1) w e w') ∧
      (r + 1 < s.size → ∀ w, Calls Try.prog 7 #[.string (s ++ suf), .int .i64 k] w fun e w' => EndPost (r + 1) w e w') := by
  have hb := strEnd_bounds q s.data.toList (i := k) (by rw [len_eq]; exact hk)
  rw [len_eq] at hb
  obtain ⟨r, hr⟩ : ∃ r, strEnd q s.data.toList k = r + 1 := ⟨strEnd q s.data.toList k - 1, by omega⟩
  rw [hr] at hb
  refine ⟨r, by omega, by omega, fun w => ?_, fun h => ?_, fun w => ?_, fun h w => ?_⟩
  · have := zzStringEnd_any q hqq s k w (by omega) hk hq
    rw [hr] at this; exact this
  · have h1 := strEnd_last q s.data.toList (i := k) (by rw [hr, len_eq]; exact h)
    rw [hr, Nat.add_sub_cancel, List.getElem?_eq_getElem (by rw [len_eq]; omega), byte_eq s (by omega)] at h1
    rw [Option.some.inj h1]
  · have := zzStringEnd_any q hqq (s.extract 0 (r + 1)) k w (by rw [cut_size s (by omega)]; omega) (by rw [cut_size s (by omega)]; omega) (by rw [cut_byte s (by omega) (by omega)]; exact hq)
    rw [cut_list, ← hr, strEnd_cut, hr] at this; rw [← hr] at this ⊢; exact this
  · have := zzStringEnd_any q hqq (s ++ suf) k w (by rw [append_size]; omega) (by rw [append_size]; omega) (by rw [append_byte_left s suf hk]; exact hq)
    rw [append_list, strEnd_suffix q _ _ (by rw [hr, len_eq]; exact h), hr] at this; exact this

theorem below_step {w a b : World} (h : Below w.heap.size w a) (k : Below a.heap.size a b) : Below w.heap.size w b := h.trans (k.mono h.size)
theorem below_drewN {w a : World} (h : Below w.heap.size w a) (q : Nat) : Below w.heap.size w (a.drewN q) := ⟨h.os, h.tape, h.output, h.size, h.block⟩

set_option maxHeartbeats 800000 in
theorem self34 (s suf : ByteArray) (k : Nat) (w : World) (hs : s.size ≤ 524288) (hf : suf.size ≤ 524288) (hk : k < s.size) (hq : (s[k].toNat : Int) = 34) :
    Calls Try.prog 5 #[.string s, .string suf, .int .i64 k] w fun e w' => Post w e w' := by
  have h10 := bytes10_any s suf k w (by unfold maxLen; omega) (by unfold maxLen; omega)
  obtain ⟨r, hr1, hr2, hc1, hlast, hc2, hc3⟩ := self_calls 34 (by decide) s suf k hs hf hk (byte_of_int hq)
  have HC1 : Hid (∀ w, Calls Try.prog 7 #[.string s, .int .i64 k] w fun e w' => EndPost (r + 1) w e w') := hc1
  have HC2 : Hid (∀ w, Calls Try.prog 7 #[.string (s.extract 0 (r + 1)), .int .i64 k] w fun e w' => EndPost (r + 1) w e w') := hc2
  have HC3 : Hid (r + 1 < s.size → ∀ w, Calls Try.prog 7 #[.string (s ++ suf), .int .i64 k] w fun e w' => EndPost (r + 1) w e w') := hc3
  clear hc1 hc2 hc3
  by_cases hlt : r + 1 < s.size
  · have hl := hlast hlt
    change (s[r].toNat : Int) = 34 at hl
    clear hlast
    go_enter Try.func5, Try.ntmps5
    go_wp2_with fail
    refine h10.mono ?_
    rintro e w' ⟨b, rfl, rfl⟩
    cases b
    · go_wp2
      go_ret
      exact ⟨rfl, Below.refl _ _⟩
    go_wp2_with fail
    refine (HC1.out _).mono ?_
    rintro e w1 ⟨rfl, hb1⟩
    have HB1 : Hid (Below w'.heap.size w' w1) := hb1
    clear hb1 h10
    have hx1 : (r : Int) + 1 < (s.size : Int) := by omega
    go_wp2
    go_quiet (fail)
    go_wp2_with fail
    refine (HC2.out _).mono ?_
    rintro e w2 ⟨rfl, hb2⟩
    have HB2 : Hid (Below w'.heap.size w' w2) := below_step (below_drewN HB1.out _) hb2
    clear hb2
    go_wp2_with fail
    refine (HC3.out hlt _).mono ?_
    rintro e w3 ⟨rfl, hb3⟩
    have HB3 : Hid (Below w'.heap.size w' w3) := below_step HB2.out hb3
    clear hb3
    go_wp2
    go_ret
    exact ⟨rfl, HB3.out⟩
  · clear hlast
    go_enter Try.func5, Try.ntmps5
    go_wp2_with fail
    refine h10.mono ?_
    rintro e w' ⟨b, rfl, rfl⟩
    cases b
    · go_wp2
      go_ret
      exact ⟨rfl, Below.refl _ _⟩
    go_wp2_with fail
    refine (HC1.out _).mono ?_
    rintro e w1 ⟨rfl, hb1⟩
    have HB1 : Hid (Below w'.heap.size w' w1) := hb1
    clear hb1 h10
    have hx1 : decide ((r : Int) + 1 < (s.size : Int)) = false := decide_eq_false (by omega)
    go_wp2
    go_quiet (fail)
    go_wp2_with fail
    refine (HC2.out _).mono ?_
    rintro e w2 ⟨rfl, hb2⟩
    have HB2 : Hid (Below w'.heap.size w' w2) := below_step (below_drewN HB1.out _) hb2
    clear hb2
    go_wp2
    go_ret
    exact ⟨rfl, HB2.out⟩

set_option maxHeartbeats 800000 in
theorem self39 (s suf : ByteArray) (k : Nat) (w : World) (hs : s.size ≤ 524288) (hf : suf.size ≤ 524288) (hk : k < s.size) (hq : (s[k].toNat : Int) = 39) :
    Calls Try.prog 5 #[.string s, .string suf, .int .i64 k] w fun e w' => Post w e w' := by
  have h10 := bytes10_any s suf k w (by unfold maxLen; omega) (by unfold maxLen; omega)
  obtain ⟨r, hr1, hr2, hc1, hlast, hc2, hc3⟩ := self_calls 39 (by decide) s suf k hs hf hk (byte_of_int hq)
  have HC1 : Hid (∀ w, Calls Try.prog 7 #[.string s, .int .i64 k] w fun e w' => EndPost (r + 1) w e w') := hc1
  have HC2 : Hid (∀ w, Calls Try.prog 7 #[.string (s.extract 0 (r + 1)), .int .i64 k] w fun e w' => EndPost (r + 1) w e w') := hc2
  have HC3 : Hid (r + 1 < s.size → ∀ w, Calls Try.prog 7 #[.string (s ++ suf), .int .i64 k] w fun e w' => EndPost (r + 1) w e w') := hc3
  clear hc1 hc2 hc3
  by_cases hlt : r + 1 < s.size
  · have hl := hlast hlt
    change (s[r].toNat : Int) = 39 at hl
    clear hlast
    go_enter Try.func5, Try.ntmps5
    go_wp2_with fail
    refine h10.mono ?_
    rintro e w' ⟨b, rfl, rfl⟩
    cases b
    · go_wp2
      go_ret
      exact ⟨rfl, Below.refl _ _⟩
    go_wp2_with fail
    refine (HC1.out _).mono ?_
    rintro e w1 ⟨rfl, hb1⟩
    have HB1 : Hid (Below w'.heap.size w' w1) := hb1
    clear hb1 h10
    have hx1 : (r : Int) + 1 < (s.size : Int) := by omega
    go_wp2
    go_quiet (fail)
    go_wp2_with fail
    refine (HC2.out _).mono ?_
    rintro e w2 ⟨rfl, hb2⟩
    have HB2 : Hid (Below w'.heap.size w' w2) := below_step (below_drewN HB1.out _) hb2
    clear hb2
    go_wp2_with fail
    refine (HC3.out hlt _).mono ?_
    rintro e w3 ⟨rfl, hb3⟩
    have HB3 : Hid (Below w'.heap.size w' w3) := below_step HB2.out hb3
    clear hb3
    go_wp2
    go_ret
    exact ⟨rfl, HB3.out⟩
  · clear hlast
    go_enter Try.func5, Try.ntmps5
    go_wp2_with fail
    refine h10.mono ?_
    rintro e w' ⟨b, rfl, rfl⟩
    cases b
    · go_wp2
      go_ret
      exact ⟨rfl, Below.refl _ _⟩
    go_wp2_with fail
    refine (HC1.out _).mono ?_
    rintro e w1 ⟨rfl, hb1⟩
    have HB1 : Hid (Below w'.heap.size w' w1) := hb1
    clear hb1 h10
    have hx1 : decide ((r : Int) + 1 < (s.size : Int)) = false := decide_eq_false (by omega)
    go_wp2
    go_quiet (fail)
    go_wp2_with fail
    refine (HC2.out _).mono ?_
    rintro e w2 ⟨rfl, hb2⟩
    have HB2 : Hid (Below w'.heap.size w' w2) := below_step (below_drewN HB1.out _) hb2
    clear hb2
    go_wp2
    go_ret
    exact ⟨rfl, HB2.out⟩

set_option maxHeartbeats 800000 in
theorem walk5 (s suf : ByteArray) (i : Int) (w : World) (hs : s.size ≤ maxLen) (hf : suf.size ≤ maxLen) : Calls Try.prog 5 #[.string s, .string suf, .int .i64 i] w fun e w' => Post w e w' := by
  have h10 := bytes10_any s suf i w hs hf
  unfold maxLen at hs hf
  by_cases hs1 : s.size ≤ 524288
  case neg =>
    go_enter Try.func5, Try.ntmps5
    go_wp2_with fail
    refine h10.mono ?_
    rintro e w' ⟨b, rfl, rfl⟩
    cases b
    all_goals
      go_wp2
      go_ret
      exact ⟨rfl, Below.refl _ _⟩
  by_cases hf1 : suf.size ≤ 524288
  case neg =>
    go_enter Try.func5, Try.ntmps5
    go_wp2_with fail
    refine h10.mono ?_
    rintro e w' ⟨b, rfl, rfl⟩
    cases b
    all_goals
      go_wp2
      go_ret
      exact ⟨rfl, Below.refl _ _⟩
  by_cases hi0 : i < 0
  · go_enter Try.func5, Try.ntmps5
    go_wp2_with fail
    refine h10.mono ?_
    rintro e w' ⟨b, rfl, rfl⟩
    cases b
    all_goals
      go_wp2
      go_ret
      exact ⟨rfl, Below.refl _ _⟩
  obtain ⟨k, rfl⟩ := Int.eq_ofNat_of_zero_le (by omega : 0 ≤ i)
  by_cases hk : k < s.size
  case neg =>
    go_enter Try.func5, Try.ntmps5
    go_wp2_with fail
    refine h10.mono ?_
    rintro e w' ⟨b, rfl, rfl⟩
    cases b
    all_goals
      go_wp2
      go_ret
      exact ⟨rfl, Below.refl _ _⟩
  by_cases hq : (s[k].toNat : Int) = 34
  · exact self34 s suf k w hs1 hf1 hk hq
  by_cases hq2 : (s[k].toNat : Int) = 39
  · exact self39 s suf k w hs1 hf1 hk hq2
  have hb1 : ((s[k].toNat : Int) != 34) = true := by rw [bne_iff_ne]; exact hq
  have hb2 : ((s[k].toNat : Int) != 39) = true := by rw [bne_iff_ne]; exact hq2
  clear hq hq2
  go_enter Try.func5, Try.ntmps5
  go_wp2_with fail
  refine h10.mono ?_
  rintro e w' ⟨b, rfl, rfl⟩
  cases b
  all_goals
    go_wp2
    go_ret
    exact ⟨rfl, Below.refl _ _⟩
end Go.Proofs.Qxb6601476a
