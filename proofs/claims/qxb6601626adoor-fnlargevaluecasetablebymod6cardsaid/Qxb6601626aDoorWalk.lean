/-
  Seat b6601626aD. largeValue (F10), ZZLargeValue (F6), FnLargeValueCaseTableByMod6 (F3): the walks.
-/
import Derived.Test.Qxb6601626aDoorCanon
import Derived.Test.Qxb6601626aDoorShelf
import Derived.Lib.Strings
import Derived.Lib.IndexBytes
namespace Go.Proofs.Qxb6601626aDoor
open Go.RowKit Go.Lib

/-- The table that strconv.Itoa reads, by its name. -/
def pow10Name : String := Rows.fnLargeValueCaseTableByMod6Row.named.getD 0 ""

theorem below_grow' (w : World) (k : Nat) (os : Array Obj) : Below w.heap.size w (Go.Sort.grow (w.drewN k) os) := by
  refine ⟨rfl, rfl, rfl, by simp [Go.Sort.grow, World.drewN], fun j hj => ?_⟩
  show (w.heap ++ os)[j]? = _
  rw [Array.getElem?_append_left hj]

theorem itoa_calls (n : Int) (w : World) (h0 : -9223372036854775808 ≤ n) (h1 : n ≤ 9223372036854775807) (htab : Lib.TabIs Tryd.prog w pow10Name .u64 Lib.pow10Tab) :
    Calls Tryd.prog 14 #[.int .i64 n] w fun e w' => e = .returned (.string (txt (itoa n))) ∧ Below w.heap.size w w' :=
  (Any.strconv_Itoa Tryd.laysM171 n h0 h1 w htab).mono fun e w' ⟨he, k, os, hw⟩ => ⟨he, by rw [hw]; exact below_grow' w k os⟩

theorem format_true (w : World) : Calls Tryd.prog 15 #[.bool true] w fun e w' => e = .returned (.string ⟨#[116, 114, 117, 101]⟩) ∧ w' = w := Tryd.strconv_FormatBool true w
theorem format_false (w : World) : Calls Tryd.prog 15 #[.bool false] w fun e w' => e = .returned (.string ⟨#[102, 97, 108, 115, 101]⟩) ∧ w' = w := Tryd.strconv_FormatBool false w

/-- "value-" -/
def pre : List UInt8 := [118, 97, 108, 117, 101, 45]
def LargePost (r : ByteArray) (w : World) (e : Ending) (w' : World) : Prop := e = .returned (.string r) ∧ Below w.heap.size w w'

theorem txt_append (a b : List UInt8) : txt a ++ txt b = txt (a ++ b) := by
  apply ByteArray.ext
  simp [txt, ByteArray.data_append]
theorem itoa_len (n : Int) (h0 : -9223372036854775808 ≤ n) (h1 : n ≤ 9223372036854775807) : (txt (itoa n)).size ≤ 21 := by rw [txt_size]; exact itoa_length_le n h0 h1

set_option maxHeartbeats 400000 in
theorem large0 (i : Int) (w : World) (h0 : -9223372036854775808 ≤ i) (h1 : i ≤ 9223372036854775807) (htab : Lib.TabIs Tryd.prog w pow10Name .u64 Lib.pow10Tab) (h3 : i.tmod 3 = 0) :
    Calls Tryd.prog 10 #[.int .i64 i] w fun e w' => LargePost (txt (pre ++ itoa i)) w e w' := by
  have hc := itoa_calls i w h0 h1 htab
  have hsz := itoa_len i h0 h1
  have HA : Hid (txt pre ++ txt (itoa i) = txt (pre ++ itoa i)) := txt_append _ _
  clear htab
  generalize txt (pre ++ itoa i) = o at *
  generalize txt (itoa i) = s at *
  go_enter Tryd.func10, Tryd.ntmps10
  go_wp2_with fail
  refine hc.mono ?_
  rintro e w1 ⟨rfl, hb⟩
  have HB : Hid (Below w.heap.size w w1) := hb
  clear hb hc
  go_wp2
  go_ret
  exact ⟨congrArg (fun x => Ending.returned (.string x)) HA.out, HB.out⟩

set_option maxHeartbeats 400000 in
theorem large1 (i : Int) (w : World) (h0 : -9223372036854775808 ≤ i) (h1 : i ≤ 9223372036854775807) (htab : Lib.TabIs Tryd.prog w pow10Name .u64 Lib.pow10Tab) (h3 : i.tmod 3 = 1) :
    Calls Tryd.prog 10 #[.int .i64 i] w fun e w' => LargePost (txt (itoa i)) w e w' := by
  have hc := itoa_calls i w h0 h1 htab
  clear htab
  generalize txt (itoa i) = s at *
  go_enter Tryd.func10, Tryd.ntmps10
  go_wp2_with fail
  refine hc.mono ?_
  rintro e w1 ⟨rfl, hb⟩
  have HB : Hid (Below w.heap.size w w1) := hb
  clear hb hc
  go_wp2
  go_ret
  exact ⟨rfl, HB.out⟩

set_option maxHeartbeats 400000 in
theorem largeT (i r q : Int) (w : World) (h3 : i.tmod 3 = r) (hr0 : (r == 0) = false) (hr1 : (r == 1) = false) (h2 : i.tmod 2 = q) (hq : (q == 1) = true) :
    Calls Tryd.prog 10 #[.int .i64 i] w fun e w' => LargePost ⟨#[116, 114, 117, 101]⟩ w e w' := by
  have hc := format_true w
  go_enter Tryd.func10, Tryd.ntmps10
  go_wp2_with fail
  refine hc.mono ?_
  rintro e w1 ⟨rfl, hw⟩
  subst hw
  clear hc
  go_wp2
  go_ret
  exact ⟨rfl, Below.refl _ _⟩

set_option maxHeartbeats 400000 in
theorem largeF (i r q : Int) (w : World) (h3 : i.tmod 3 = r) (hr0 : (r == 0) = false) (hr1 : (r == 1) = false) (h2 : i.tmod 2 = q) (hq : (q == 1) = false) :
    Calls Tryd.prog 10 #[.int .i64 i] w fun e w' => LargePost ⟨#[102, 97, 108, 115, 101]⟩ w e w' := by
  have hc := format_false w
  go_enter Tryd.func10, Tryd.ntmps10
  go_wp2_with fail
  refine hc.mono ?_
  rintro e w1 ⟨rfl, hw⟩
  subst hw
  clear hc
  go_wp2
  go_ret
  exact ⟨rfl, Below.refl _ _⟩

set_option maxHeartbeats 400000 in
theorem zz_large (i : Int) (r : ByteArray) (w : World) (h : Calls Tryd.prog 10 #[.int .i64 i] w fun e w' => LargePost r w e w') : Calls Tryd.prog 6 #[.int .i64 i] w fun e w' => LargePost r w e w' := by
  go_enter Tryd.func6, Tryd.ntmps6
  go_wp2_with fail
  refine h.mono ?_
  rintro e w1 ⟨rfl, hb⟩
  have HB : Hid (Below w.heap.size w w1) := hb
  clear hb h
  go_wp2
  go_ret
  exact ⟨rfl, HB.out⟩

/-! ### the law -/
def Post (w : World) (e : Ending) (w' : World) : Prop := e = .returned (.bool true) ∧ Below w.heap.size w w'

theorem out_facts (s : List UInt8) : (txt (pre ++ s)).size = 6 + (txt s).size ∧ (txt (pre ++ s)).extract 0 6 = ⟨#[118, 97, 108, 117, 101, 45]⟩ ∧ (txt (pre ++ s)).extract 6 (txt (pre ++ s)).size = txt s := by
  refine ⟨by rw [txt_size, txt_size]; simp [pre]; omega, ?_, ?_⟩
  · apply ByteArray.ext
    apply Array.toList_inj.1
    rw [Lib.extract_data]
    simp [txt, pre]
  · apply ByteArray.ext
    apply Array.toList_inj.1
    rw [Lib.extract_to_end]
    simp [txt, pre]

set_option maxHeartbeats 800000 in
/-- i%6 is 0, 3 or -3. -/
theorem law0 (i m : Int) (w : World) (h0 : -9223372036854775808 ≤ i) (h1 : i ≤ 9223372036854775807) (htab : Lib.TabIs Tryd.prog w pow10Name .u64 Lib.pow10Tab) (h6 : i.tmod 6 = m) (hm : m = 0 ∨ m = 3 ∨ m = -3) :
    Calls Tryd.prog 3 #[.int .i64 i] w fun e w' => Post w e w' := by
  have h3 : i.tmod 3 = 0 := by
    rw [← Int.tmod_tmod_of_dvd i (show (3 : Int) ∣ 6 by decide), h6]
    rcases hm with rfl | rfl | rfl <;> rfl
  have hc := zz_large i _ w (large0 i w h0 h1 htab h3)
  have hk := fun W => canon_any i W h0 h1
  obtain ⟨f1, f2, f3⟩ := out_facts (itoa i)
  have hsz := itoa_len i h0 h1
  clear htab h3
  generalize txt (pre ++ itoa i) = o at *
  generalize txt (itoa i) = s at *
  have g1 : 6 ≤ o.size := by omega
  have g2 : o.size ≤ 27 := by omega
  clear f1
  rcases hm with rfl | rfl | rfl
  all_goals
    go_enter Tryd.func3, Tryd.ntmps3
    go_wp2_with fail
    refine hc.mono ?_
    rintro e w1 ⟨rfl, hb⟩
    have HB : Hid (Below w.heap.size w w1) := hb
    clear hb
    go_wp2_with fail
    refine (hk _).mono ?_
    rintro e w2 ⟨rfl, hw⟩
    subst hw
    go_wp2
    go_ret
    exact ⟨by simp, HB.out⟩

set_option maxHeartbeats 800000 in
/-- i%6 is 1 or 4. -/
theorem law1 (i m : Int) (w : World) (h0 : -9223372036854775808 ≤ i) (h1 : i ≤ 9223372036854775807) (htab : Lib.TabIs Tryd.prog w pow10Name .u64 Lib.pow10Tab) (h6 : i.tmod 6 = m) (hm : m = 1 ∨ m = 4) :
    Calls Tryd.prog 3 #[.int .i64 i] w fun e w' => Post w e w' := by
  have h3 : i.tmod 3 = 1 := by
    rw [← Int.tmod_tmod_of_dvd i (show (3 : Int) ∣ 6 by decide), h6]
    rcases hm with rfl | rfl <;> rfl
  have hc := zz_large i _ w (large1 i w h0 h1 htab h3)
  have hk := fun W => canon_any i W h0 h1
  clear htab h3
  generalize txt (itoa i) = s at *
  rcases hm with rfl | rfl
  all_goals
    go_enter Tryd.func3, Tryd.ntmps3
    go_wp2_with fail
    refine hc.mono ?_
    rintro e w1 ⟨rfl, hb⟩
    have HB : Hid (Below w.heap.size w w1) := hb
    clear hb
    go_wp2_with fail
    refine (hk _).mono ?_
    rintro e w2 ⟨rfl, hw⟩
    subst hw
    go_wp2
    go_ret
    exact ⟨rfl, HB.out⟩

set_option maxHeartbeats 800000 in
/-- i%6 is 5. -/
theorem law5 (i : Int) (w : World) (h6 : i.tmod 6 = 5) : Calls Tryd.prog 3 #[.int .i64 i] w fun e w' => Post w e w' := by
  have h3 : i.tmod 3 = 2 := by
    rw [← Int.tmod_tmod_of_dvd i (show (3 : Int) ∣ 6 by decide), h6]; rfl
  have h2 : i.tmod 2 = 1 := by
    rw [← Int.tmod_tmod_of_dvd i (show (2 : Int) ∣ 6 by decide), h6]; rfl
  have hc := zz_large i _ w (largeT i 2 1 w h3 rfl rfl h2 rfl)
  clear h3 h2
  go_enter Tryd.func3, Tryd.ntmps3
  go_wp2_with fail
  refine hc.mono ?_
  rintro e w1 ⟨rfl, hb⟩
  have HB : Hid (Below w.heap.size w w1) := hb
  clear hb
  go_wp2
  go_ret
  exact ⟨rfl, HB.out⟩

set_option maxHeartbeats 800000 in
/-- i%6 is 2, -1, -2, -4 or -5. -/
theorem lawF (i m : Int) (w : World) (h6 : i.tmod 6 = m) (hm : m = 2 ∨ m = -1 ∨ m = -2 ∨ m = -4 ∨ m = -5) : Calls Tryd.prog 3 #[.int .i64 i] w fun e w' => Post w e w' := by
  have h3 : i.tmod 3 = m.tmod 3 := by rw [← Int.tmod_tmod_of_dvd i (show (3 : Int) ∣ 6 by decide), h6]
  have h2 : i.tmod 2 = m.tmod 2 := by rw [← Int.tmod_tmod_of_dvd i (show (2 : Int) ∣ 6 by decide), h6]
  have hc := zz_large i _ w (largeF i (m.tmod 3) (m.tmod 2) w h3 (by rcases hm with rfl | rfl | rfl | rfl | rfl <;> rfl) (by rcases hm with rfl | rfl | rfl | rfl | rfl <;> rfl) h2 (by rcases hm with rfl | rfl | rfl | rfl | rfl <;> rfl))
  clear h3 h2
  rcases hm with rfl | rfl | rfl | rfl | rfl
  all_goals
    go_enter Tryd.func3, Tryd.ntmps3
    go_wp2_with fail
    refine hc.mono ?_
    rintro e w1 ⟨rfl, hb⟩
    have HB : Hid (Below w.heap.size w w1) := hb
    clear hb
    go_wp2
    go_ret
    exact ⟨rfl, HB.out⟩

theorem tmod6 (i : Int) : -6 < i.tmod 6 ∧ i.tmod 6 < 6 := by
  rcases Int.le_total 0 i with h | h
  · obtain ⟨n, rfl⟩ := Int.eq_ofNat_of_zero_le h
    rw [Int.tmod_eq_emod_of_nonneg (by omega)]
    omega
  · obtain ⟨n, hn⟩ := Int.eq_ofNat_of_zero_le (show 0 ≤ -i by omega)
    have e : i = -(n : Int) := by omega
    rw [e, Int.neg_tmod, Int.tmod_eq_emod_of_nonneg (by omega)]
    omega

/-- The law at every int, the table as the program's text lays it. -/
theorem walk3 (i : Int) (w : World) (h0 : -9223372036854775808 ≤ i) (h1 : i ≤ 9223372036854775807) (htab : Lib.TabIs Tryd.prog w pow10Name .u64 Lib.pow10Tab) : Calls Tryd.prog 3 #[.int .i64 i] w fun e w' => Post w e w' := by
  have hb := tmod6 i
  generalize h6 : i.tmod 6 = m at hb
  rcases (show (m = 0 ∨ m = 3 ∨ m = -3) ∨ (m = 1 ∨ m = 4) ∨ m = 5 ∨ (m = 2 ∨ m = -1 ∨ m = -2 ∨ m = -4 ∨ m = -5) by omega) with h | h | h | h
  · exact law0 i m w h0 h1 htab h6 h
  · exact law1 i m w h0 h1 htab h6 h
  · exact law5 i w (by rw [h6, h])
  · exact lawF i m w h6 h
end Go.Proofs.Qxb6601626aDoor
