/-
  Seat b6601476a. FnStringEndShiftInvariant (F4): the walk.
-/
import Derived.Test.Qxb6601476aEnd
namespace Go.Proofs.Qxb6601476a
open Go.RowKit

def Post (w : World) (e : Ending) (w' : World) : Prop := e = .returned (.bool true) ∧ Below w.heap.size w w'
def JustBool (w : World) (e : Ending) (w' : World) : Prop := ∃ b : Bool, e = .returned (.bool b) ∧ w' = w

set_option maxHeartbeats 400000 in
theorem bytes9_any (p s : ByteArray) (i : Int) (w : World) (hp : p.size ≤ maxLen) (hs : s.size ≤ maxLen) : Calls Try.prog 9 #[.string p, .string s, .int .i64 i] w fun e w' => JustBool w e w' := by
  unfold maxLen at hp hs
  by_cases h1 : p.size ≤ 1048576
  · by_cases h2 : s.size ≤ 1048576
    · go_enter Try.func9, Try.ntmps9
      go_wp2
      all_goals
        go_ret
        exact ⟨_, rfl, rfl⟩
    · go_enter Try.func9, Try.ntmps9
      go_wp2
      all_goals
        go_ret
        exact ⟨_, rfl, rfl⟩
  · go_enter Try.func9, Try.ntmps9
    go_wp2
    all_goals
      go_ret
      exact ⟨_, rfl, rfl⟩

theorem append_list (p s : ByteArray) : (p ++ s).data.toList = p.data.toList ++ s.data.toList := by simp [ByteArray.data_append]
theorem append_size (p s : ByteArray) : (p ++ s).size = p.size + s.size := by
  have h := congrArg List.length (append_list p s)
  rw [List.length_append, len_eq, len_eq, len_eq] at h
  exact h
theorem append_byte (p s : ByteArray) {k : Nat} (hk : k < s.size) : (p ++ s)[p.size + k]'(by rw [append_size]; omega) = s[k] := by
  have h1 := byte_eq (p ++ s) (I := p.size + k) (by rw [append_size]; omega)
  have h2 := byte_eq s hk
  rw [← h1, ← h2]
  have e := append_list p s
  have h3 : (p ++ s).data.toList[p.size + k]? = s.data.toList[k]? := by
    rw [e, List.getElem?_append_right (by rw [len_eq]; omega), len_eq]
    congr 1
    omega
  rw [List.getElem?_eq_getElem (by rw [len_eq, append_size]; omega), List.getElem?_eq_getElem (by rw [len_eq]; exact hk)] at h3
  exact Option.some.inj h3

/-- The shift at a quote. -/
theorem shift_calls (q : UInt8) (hqq : q = 34 ∨ q = 39) (p s : ByteArray) (k : Nat) (w : World) (hp : p.size ≤ 524288) (hs : s.size ≤ 524288) (hk : k < s.size) (hq : s[k] = q) :
    Calls Try.prog 7 #[.string (p ++ s), .int .i64 ((p.size : Int) + (k : Int))] w fun e w' => EndPost (p.size + strEnd q s.data.toList k) w e w' := by
  have h := zzStringEnd_any q hqq (p ++ s) (p.size + k) w (by rw [append_size]; omega) (by rw [append_size]; omega) (by rw [append_byte p s hk]; exact hq)
  rw [append_list, ← len_eq p, strEnd_shift, len_eq p] at h
  exact h

set_option maxHeartbeats 800000 in
theorem walk4 (p s : ByteArray) (i : Int) (w : World) (hp : p.size ≤ maxLen) (hs : s.size ≤ maxLen) : Calls Try.prog 4 #[.string p, .string s, .int .i64 i] w fun e w' => Post w e w' := by
  have h9 := bytes9_any p s i w hp hs
  unfold maxLen at hp hs
  go_enter Try.func4, Try.ntmps4
  go_wp2_with fail
  refine h9.mono ?_
  rintro e w' ⟨b, rfl, rfl⟩
  clear h9
  cases b
  · go_wp2
    go_ret
    exact ⟨rfl, Below.refl _ _⟩
  by_cases hp1 : p.size ≤ 524288
  case neg =>
    go_wp2
    go_ret
    exact ⟨rfl, Below.refl _ _⟩
  by_cases hs1 : s.size ≤ 524288
  case neg =>
    go_wp2
    go_ret
    exact ⟨rfl, Below.refl _ _⟩
  by_cases hi0 : i < 0
  · go_wp2
    go_ret
    exact ⟨rfl, Below.refl _ _⟩
  obtain ⟨k, rfl⟩ := Int.eq_ofNat_of_zero_le (by omega : 0 ≤ i)
  by_cases hk : k < s.size
  case neg =>
    go_wp2
    go_ret
    exact ⟨rfl, Below.refl _ _⟩
  clear hi0
  by_cases hq : (s[k].toNat : Int) = 34
  · have hc1 := fun W => shift_calls 34 (by decide) p s k W hp1 hs1 hk (byte_of_int hq)
    have hc2 := fun W => zzStringEnd_any 34 (by decide) s k W (by omega) hk (byte_of_int hq)
    have hbd := strEnd_bounds 34 s.data.toList (i := k) (by rw [len_eq]; exact hk)
    rw [len_eq] at hbd
    generalize strEnd 34 s.data.toList k = r at *
    go_wp2_with fail
    refine (hc1 _).mono ?_
    rintro e w1 ⟨rfl, hb1⟩
    have HB1 : Hid (Below w'.heap.size w' w1) := hb1
    clear hb1 hc1
    go_wp2_with fail
    refine (hc2 _).mono ?_
    rintro e w2 ⟨rfl, hb2⟩
    have HB2 : Hid (Below w'.heap.size w' w2) := HB1.out.trans (hb2.mono HB1.out.size)
    clear hb2 hc2
    go_wp2
    go_ret
    exact ⟨by simp, HB2.out⟩
  by_cases hq : (s[k].toNat : Int) = 39
  · have hc1 := fun W => shift_calls 39 (by decide) p s k W hp1 hs1 hk (byte_of_int hq)
    have hc2 := fun W => zzStringEnd_any 39 (by decide) s k W (by omega) hk (byte_of_int hq)
    have hbd := strEnd_bounds 39 s.data.toList (i := k) (by rw [len_eq]; exact hk)
    rw [len_eq] at hbd
    generalize strEnd 39 s.data.toList k = r at *
    go_wp2_with fail
    refine (hc1 _).mono ?_
    rintro e w1 ⟨rfl, hb1⟩
    have HB1 : Hid (Below w'.heap.size w' w1) := hb1
    clear hb1 hc1
    go_wp2_with fail
    refine (hc2 _).mono ?_
    rintro e w2 ⟨rfl, hb2⟩
    have HB2 : Hid (Below w'.heap.size w' w2) := HB1.out.trans (hb2.mono HB1.out.size)
    clear hb2 hc2
    go_wp2
    go_ret
    exact ⟨by simp, HB2.out⟩
  rename_i hq34
  have hb1 : ((s[k].toNat : Int) != 34) = true := by rw [bne_iff_ne]; exact hq34
  have hb2 : ((s[k].toNat : Int) != 39) = true := by rw [bne_iff_ne]; exact hq
  clear hq hq34
  go_wp2
  go_ret
  exact ⟨rfl, Below.refl _ _⟩
end Go.Proofs.Qxb6601476a
