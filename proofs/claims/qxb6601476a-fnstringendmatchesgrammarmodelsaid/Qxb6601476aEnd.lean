/-
  Seat b6601476a. tomlfile.stringEnd (F11), tomlfile.ZZstringEnd (F7): the walks.
-/
import Derived.Test.Qxb6601476aRows
import Derived.Test.Qxb6601476aShelf
import Derived.Test.Qxb6601476aPlain
import Derived.WalkKit
import Derived.WalkSpells
import Derived.WalkLawsBesides
import Derived.Lib.Strings
import Derived.Lib.IndexBytes
namespace Go.Proofs.Qxb6601476a
open Go.RowKit

/-- The delimiter: three quotes. -/
def del (q : UInt8) : ByteArray := ⟨#[q, q, q]⟩
theorem del_size (q : UInt8) : (del q).size = 3 := rfl

theorem conv34 (w : World) : (convert 5 9 (.int .u8 34)).run Try.prog w = .ok (.string ⟨#[34]⟩) w := by kernel_rfl
theorem conv39 (w : World) : (convert 5 9 (.int .u8 39)).run Try.prog w = .ok (.string ⟨#[39]⟩) w := by kernel_rfl

theorem repeat3 (q : UInt8) (w : World) : Calls Try.prog 14 #[.string ⟨#[q]⟩, .int .i64 3] w fun e w' => e = .returned (.string (del q)) ∧ Below w.heap.size w w' := by
  have h := Try.strings_Repeat_main ⟨#[q]⟩ 3 w (by omega) (by omega) (by show 1 * 3 ≤ _; omega) (by show 0 < 1; omega)
  exact h

theorem hasPre (s : ByteArray) (k : Nat) (q : UInt8) (w : World) : Calls Try.prog 15 #[.string (s.extract k s.size), .string (del q)] w fun e w' => e = .returned (.bool (pre3 q (s.data.toList.drop k))) ∧ w' = w := by
  have h := Try.strings_HasPrefix (s.extract k s.size) (del q) w
  have e : Lib.hasPrefix (s.extract k s.size).data.toList (del q).data.toList = pre3 q (s.data.toList.drop k) := by
    rw [Lib.extract_to_end]
    rfl
  rw [e] at h
  exact h

/-! ### the steps, in the walk's words -/
theorem len_eq (s : ByteArray) : s.data.toList.length = s.size := by simp
theorem byte_eq (s : ByteArray) {I : Nat} (h : I < s.size) : s.data.toList[I]'(by simpa using h) = s[I] := by simp [ByteArray.getElem_eq_getElem_data]
theorem byte_of_int {b c : UInt8} (h : (b.toNat : Int) = (c.toNat : Int)) : b = c := by
  apply UInt8.toNat_inj.1
  omega
theorem byte_ne_int {b c : UInt8} (h : ¬ (b.toNat : Int) = (c.toNat : Int)) : ¬ b = c := fun e => h (by rw [e])

def fromB (esc multi : Bool) (q : UInt8) (s : ByteArray) (I : Nat) : Nat := from_ esc multi q s.data.toList I
def runB (q : UInt8) (k : Nat) (s : ByteArray) (I : Nat) : Nat := run q k (s.data.toList.drop I)
def preB (q : UInt8) (s : ByteArray) (I : Nat) : Bool := pre3 q (s.data.toList.drop I)

theorem b_end (esc multi : Bool) (q : UInt8) (s : ByteArray) {I : Nat} (h : s.size ≤ I) : fromB esc multi q s I = s.size := by
  rw [fromB, from_end esc multi q _ (by rw [len_eq]; exact h), len_eq]
theorem b_esc (multi : Bool) (q : UInt8) (s : ByteArray) {I : Nat} (h : I < s.size) (hc : (s[I].toNat : Int) = 92) : fromB true multi q s I = fromB true multi q s (I + 2) :=
  from_esc multi q _ (by rw [len_eq]; exact h) (by rw [byte_eq s h]; exact byte_of_int hc)
theorem b_not92 (esc : Bool) (s : ByteArray) {I : Nat} (h : I < s.size) (hc : esc = false ∨ ¬ (s[I].toNat : Int) = 92) : ¬ (esc = true ∧ s.data.toList[I]'(by simpa using h) = 92) := by
  rintro ⟨h1, h2⟩
  rcases hc with hc | hc
  · rw [hc] at h1; cases h1
  · rw [byte_eq s h] at h2; exact hc (by rw [h2]; rfl)
theorem b_close (esc : Bool) (q : UInt8) (s : ByteArray) {I : Nat} (h : I < s.size) (hq : (s[I].toNat : Int) = (q.toNat : Int)) (hc : esc = false ∨ ¬ (s[I].toNat : Int) = 92) : fromB esc false q s I = I + 1 :=
  from_close esc q _ (by rw [len_eq]; exact h) (by rw [byte_eq s h]; exact byte_of_int hq) (b_not92 esc s h hc)
theorem b_close3 (esc : Bool) (q : UInt8) (s : ByteArray) {I : Nat} (h : I < s.size) (hp : preB q s I = true) (hc : esc = false ∨ ¬ (s[I].toNat : Int) = 92) : fromB esc true q s I = I + 3 + runB q 2 s (I + 3) :=
  from_close3 esc q _ (by rw [len_eq]; exact h) hp (b_not92 esc s h hc)
theorem b_next (esc multi : Bool) (q : UInt8) (s : ByteArray) {I : Nat} (h : I < s.size) (hc : esc = false ∨ ¬ (s[I].toNat : Int) = 92) (h1 : multi = true ∨ ¬ (s[I].toNat : Int) = (q.toNat : Int)) (h2 : multi = false ∨ preB q s I = false) :
    fromB esc multi q s I = fromB esc multi q s (I + 1) :=
  from_next esc multi q _ (by rw [len_eq]; exact h) (b_not92 esc s h hc)
    (by
      rintro ⟨e1, e2⟩
      rcases h1 with h1 | h1
      · rw [h1] at e1; cases e1
      · rw [byte_eq s h] at e2; exact h1 (by rw [e2]))
    (by
      rintro ⟨e1, e2⟩
      rcases h2 with h2 | h2
      · rw [h2] at e1; cases e1
      · rw [preB] at h2; rw [h2] at e2; cases e2)
theorem b_pre_le {q : UInt8} {s : ByteArray} {I : Nat} (h : preB q s I = true) : I + 3 ≤ s.size := by
  have h3 := pre3_len h
  rw [List.length_drop, len_eq] at h3
  omega
theorem b_run_yes (q : UInt8) (k : Nat) (s : ByteArray) {I : Nat} (h : I < s.size) (hc : (s[I].toNat : Int) = (q.toNat : Int)) : runB q (k + 1) s I = 1 + runB q k s (I + 1) :=
  run_step_yes q _ k (by rw [len_eq]; exact h) (by rw [byte_eq s h]; exact byte_of_int hc)
theorem b_run_no (q : UInt8) (k : Nat) (s : ByteArray) {I : Nat} (h : I < s.size) (hc : ¬ (s[I].toNat : Int) = (q.toNat : Int)) : runB q (k + 1) s I = 0 :=
  run_step_no q _ k (by rw [len_eq]; exact h) (by rw [byte_eq s h]; exact byte_ne_int hc)
theorem b_run_end (q : UInt8) (k : Nat) (s : ByteArray) {I : Nat} (h : s.size ≤ I) : runB q k s I = 0 := run_step_end q _ k (by rw [len_eq]; exact h)
theorem b_run_zero (q : UInt8) (s : ByteArray) (I : Nat) : runB q 0 s I = 0 := run_zero q _

theorem hasPreB (s : ByteArray) (k : Nat) (q : UInt8) (w : World) : Calls Try.prog 15 #[.string (s.extract k s.size), .string (del q)] w fun e w' => e = .returned (.bool (preB q s k)) ∧ w' = w := hasPre s k q w

/-- What the call comes to. -/
def EndPost (r : Nat) (w : World) (e : Ending) (w' : World) : Prop := e = .returned (.int .i64 (r : Int)) ∧ Below w.heap.size w w'
theorem endPost_of {r q : Nat} {w w' : World} (h : r = q) (hb : Below w.heap.size w w') : EndPost r w (.returned (.int .i64 (q : Int))) w' := ⟨by rw [h], hb⟩

set_option maxHeartbeats 800000 in
theorem end34_t (s : ByteArray) (i : Nat) (w : World) (hs : s.size ≤ 1048576) (hi : i < s.size) (hq : (s[i].toNat : Int) = 34) (hm : preB 34 s i = true) :
    Calls Try.prog 11 #[.string s, .int .i64 i] w fun e w' => EndPost (fromB true true 34 s (i + 3)) w e w' := by
  have hcv := conv34
  have hds := del_size 34
  have hm3 := b_pre_le hm
  go_enter Try.func11, Try.ntmps11
  go_wp2_with fail
  refine (repeat3 34 _).mono ?_
  rintro e w1 ⟨rfl, hb1⟩
  go_wp2_with fail
  refine (hasPreB s i 34 _).mono ?_
  rintro e w2 ⟨rfl, hw2⟩
  subst hw2
  rw [hm]
  have HB : Hid (Below w.heap.size w w2) := hb1
  clear hb1 hcv hm hq
  go_wp2
  go_loopw [1] (fun v wr => ∃ I : Nat, I ≤ s.size + 1 ∧ v = .int .i64 I ∧ fromB true true 34 s (i + 3) = fromB true true 34 s I ∧ Below w.heap.size w wr) (fun v _ => s.size + 1 - (intOf v).toNat)
  case atStart => exact ⟨i + 3, by omega, by go_num, rfl, HB.out⟩
  case round =>
    obtain ⟨I, hI, rfl, hF, hbr⟩ := hrel
    have HF : Hid (fromB true true 34 s (i + 3) = fromB true true 34 s I ∧ Below w.heap.size w wr) := ⟨hF, hbr⟩
    clear hF hbr HB
    by_cases hlt : I < s.size
    · by_cases h92 : (s[I].toNat : Int) = 92
      · have HS : Hid (fromB true true 34 s (i + 3) = fromB true true 34 s (I + 2)) := by
          show fromB true true 34 s (i + 3) = _
          rw [HF.out.1, b_esc true 34 s hlt h92]
        go_wp2
        go_roundw
        case rel => exact ⟨I + 2, by omega, by go_num, HS.out, HF.out.2⟩
        case measure => simp [intOf]; omega
      · have h92b : ((s[I].toNat : Int) == 92) = false := by simpa using h92
        have H92 : Hid (¬ (s[I].toNat : Int) = 92) := h92
        clear h92
        by_cases hp : preB 34 s I = true
        · have hp3 := b_pre_le hp
          have HC : Hid (fromB true true 34 s (i + 3) = I + 3 + runB 34 2 s (I + 3)) := by
            show fromB true true 34 s (i + 3) = _
            rw [HF.out.1, b_close3 true 34 s hlt hp (by exact Or.inr H92.out)]
          go_wp2_with fail
          refine (hasPreB s I 34 _).mono ?_
          rintro e w3 ⟨rfl, hw3⟩
          subst hw3
          rw [hp]
          clear hp
          obtain ⟨wo, rfl⟩ : ∃ wo : World, wo = w3 := ⟨_, rfl⟩
          go_wp2
          go_loopw [9] (fun v wi => ∃ E : Nat, I + 3 ≤ E ∧ E ≤ I + 5 ∧ E ≤ s.size ∧ v = .int .i64 E ∧ I + 3 + runB 34 2 s (I + 3) = E + runB 34 (I + 5 - E) s E ∧ Below w.heap.size w wi) (fun v _ => I + 5 - (intOf v).toNat)
          case atStart => exact ⟨I + 3, by omega, by omega, by omega, by go_num, by rw [show I + 5 - (I + 3) = 2 by omega], HF.out.2⟩
          case round =>
            obtain ⟨E, hE1, hE2, hE3, rfl, hR, hbi⟩ := hrel
            have HR : Hid (I + 3 + runB 34 2 s (I + 3) = E + runB 34 (I + 5 - E) s E ∧ Below w.heap.size w wr) := ⟨hR, hbi⟩
            clear hR hbi
            by_cases hEn : E < s.size
            · by_cases hE5 : E < I + 5
              · have hEi : (E : Int) < (I : Int) + 3 + 2 := by omega
                by_cases hc : (s[E].toNat : Int) = 34
                · have HS : Hid (I + 3 + runB 34 2 s (I + 3) = E + 1 + runB 34 (I + 5 - (E + 1)) s (E + 1)) := by
                    show I + 3 + runB 34 2 s (I + 3) = _
                    rw [HR.out.1, show I + 5 - E = (I + 5 - (E + 1)) + 1 by omega, b_run_yes 34 _ s hEn hc]
                    omega
                  go_wp2
                  go_roundw
                  case rel => exact ⟨E + 1, by omega, by omega, by omega, by go_num, HS.out, HR.out.2⟩
                  case measure => simp [intOf]; omega
                · have hcb : ((s[E].toNat : Int) == 34) = false := by simpa using hc
                  have HS : Hid (fromB true true 34 s (i + 3) = E) := by
                    show fromB true true 34 s (i + 3) = E
                    rw [HC.out, HR.out.1, show I + 5 - E = (I + 5 - (E + 1)) + 1 by omega, b_run_no 34 _ s hEn hc]
                    omega
                  clear hc
                  go_wp2
                  go_ret
                  exact endPost_of HS.out HR.out.2
              · have hEi : ¬ (E : Int) < (I : Int) + 3 + 2 := by omega
                have HS : Hid (fromB true true 34 s (i + 3) = E) := by
                  show fromB true true 34 s (i + 3) = E
                  rw [HC.out, HR.out.1, show I + 5 - E = 0 by omega, b_run_zero]
                  omega
                go_wp2
                go_ret
                exact endPost_of HS.out HR.out.2
            · have HS : Hid (fromB true true 34 s (i + 3) = E) := by
                show fromB true true 34 s (i + 3) = E
                rw [HC.out, HR.out.1, b_run_end 34 _ s (by omega)]
                omega
              go_wp2
              go_ret
              exact endPost_of HS.out HR.out.2
        · have hp' : preB 34 s I = false := by simpa using hp
          have HS : Hid (fromB true true 34 s (i + 3) = fromB true true 34 s (I + 1)) := by
            show fromB true true 34 s (i + 3) = _
            rw [HF.out.1, b_next true true 34 s hlt (by exact Or.inr H92.out) (Or.inl rfl) (Or.inr hp')]
          clear hp
          go_wp2_with fail
          refine (hasPreB s I 34 _).mono ?_
          rintro e w3 ⟨rfl, hw3⟩
          subst hw3
          rw [hp']
          clear hp'
          go_wp2
          go_roundw
          case rel => exact ⟨I + 1, by omega, by go_num, HS.out, HF.out.2⟩
          case measure => simp [intOf]; omega
    · have HS : Hid (fromB true true 34 s (i + 3) = s.size) := by
        show fromB true true 34 s (i + 3) = _
        rw [HF.out.1, b_end true true 34 s (by omega)]
      go_wp2
      go_ret
      exact endPost_of HS.out HF.out.2

set_option maxHeartbeats 800000 in
theorem end34_f (s : ByteArray) (i : Nat) (w : World) (hs : s.size ≤ 1048576) (hi : i < s.size) (hq : (s[i].toNat : Int) = 34) (hm : preB 34 s i = false) :
    Calls Try.prog 11 #[.string s, .int .i64 i] w fun e w' => EndPost (fromB true false 34 s (i + 1)) w e w' := by
  have hcv := conv34
  have hds := del_size 34
  go_enter Try.func11, Try.ntmps11
  go_wp2_with fail
  refine (repeat3 34 _).mono ?_
  rintro e w1 ⟨rfl, hb1⟩
  go_wp2_with fail
  refine (hasPreB s i 34 _).mono ?_
  rintro e w2 ⟨rfl, hw2⟩
  subst hw2
  rw [hm]
  have HB : Hid (Below w.heap.size w w2) := hb1
  clear hb1 hcv hm hq
  go_wp2
  go_loopw [1] (fun v wr => ∃ I : Nat, I ≤ s.size + 1 ∧ v = .int .i64 I ∧ fromB true false 34 s (i + 1) = fromB true false 34 s I ∧ Below w.heap.size w wr) (fun v _ => s.size + 1 - (intOf v).toNat)
  case atStart => exact ⟨i + 1, by omega, by go_num, rfl, HB.out⟩
  case round =>
    obtain ⟨I, hI, rfl, hF, hbr⟩ := hrel
    have HF : Hid (fromB true false 34 s (i + 1) = fromB true false 34 s I ∧ Below w.heap.size w wr) := ⟨hF, hbr⟩
    clear hF hbr HB
    by_cases hlt : I < s.size
    · by_cases h92 : (s[I].toNat : Int) = 92
      · have HS : Hid (fromB true false 34 s (i + 1) = fromB true false 34 s (I + 2)) := by
          show fromB true false 34 s (i + 1) = _
          rw [HF.out.1, b_esc false 34 s hlt h92]
        go_wp2
        go_roundw
        case rel => exact ⟨I + 2, by omega, by go_num, HS.out, HF.out.2⟩
        case measure => simp [intOf]; omega
      · have h92b : ((s[I].toNat : Int) == 92) = false := by simpa using h92
        have H92 : Hid (¬ (s[I].toNat : Int) = 92) := h92
        clear h92
        by_cases hc : (s[I].toNat : Int) = 34
        · have HS : Hid (fromB true false 34 s (i + 1) = I + 1) := by
            show fromB true false 34 s (i + 1) = _
            rw [HF.out.1, b_close true 34 s hlt hc (by exact Or.inr H92.out)]
          go_wp2
          go_ret
          exact endPost_of HS.out HF.out.2
        · have hcb : ((s[I].toNat : Int) == 34) = false := by simpa using hc
          have HS : Hid (fromB true false 34 s (i + 1) = fromB true false 34 s (I + 1)) := by
            show fromB true false 34 s (i + 1) = _
            rw [HF.out.1, b_next true false 34 s hlt (by exact Or.inr H92.out) (Or.inr hc) (Or.inl rfl)]
          clear hc
          go_wp2
          go_roundw
          case rel => exact ⟨I + 1, by omega, by go_num, HS.out, HF.out.2⟩
          case measure => simp [intOf]; omega
    · have HS : Hid (fromB true false 34 s (i + 1) = s.size) := by
        show fromB true false 34 s (i + 1) = _
        rw [HF.out.1, b_end true false 34 s (by omega)]
      go_wp2
      go_ret
      exact endPost_of HS.out HF.out.2

set_option maxHeartbeats 800000 in
theorem end39_t (s : ByteArray) (i : Nat) (w : World) (hs : s.size ≤ 1048576) (hi : i < s.size) (hq : (s[i].toNat : Int) = 39) (hm : preB 39 s i = true) :
    Calls Try.prog 11 #[.string s, .int .i64 i] w fun e w' => EndPost (fromB false true 39 s (i + 3)) w e w' := by
  have hcv := conv39
  have hds := del_size 39
  have hm3 := b_pre_le hm
  go_enter Try.func11, Try.ntmps11
  go_wp2_with fail
  refine (repeat3 39 _).mono ?_
  rintro e w1 ⟨rfl, hb1⟩
  go_wp2_with fail
  refine (hasPreB s i 39 _).mono ?_
  rintro e w2 ⟨rfl, hw2⟩
  subst hw2
  rw [hm]
  have HB : Hid (Below w.heap.size w w2) := hb1
  clear hb1 hcv hm hq
  go_wp2
  go_loopw [1] (fun v wr => ∃ I : Nat, I ≤ s.size + 1 ∧ v = .int .i64 I ∧ fromB false true 39 s (i + 3) = fromB false true 39 s I ∧ Below w.heap.size w wr) (fun v _ => s.size + 1 - (intOf v).toNat)
  case atStart => exact ⟨i + 3, by omega, by go_num, rfl, HB.out⟩
  case round =>
    obtain ⟨I, hI, rfl, hF, hbr⟩ := hrel
    have HF : Hid (fromB false true 39 s (i + 3) = fromB false true 39 s I ∧ Below w.heap.size w wr) := ⟨hF, hbr⟩
    clear hF hbr HB
    by_cases hlt : I < s.size
    · by_cases hp : preB 39 s I = true
      · have hp3 := b_pre_le hp
        have HC : Hid (fromB false true 39 s (i + 3) = I + 3 + runB 39 2 s (I + 3)) := by
          show fromB false true 39 s (i + 3) = _
          rw [HF.out.1, b_close3 false 39 s hlt hp (by exact Or.inl rfl)]
        go_wp2_with fail
        refine (hasPreB s I 39 _).mono ?_
        rintro e w3 ⟨rfl, hw3⟩
        subst hw3
        rw [hp]
        clear hp
        obtain ⟨wo, rfl⟩ : ∃ wo : World, wo = w3 := ⟨_, rfl⟩
        go_wp2
        go_loopw [9] (fun v wi => ∃ E : Nat, I + 3 ≤ E ∧ E ≤ I + 5 ∧ E ≤ s.size ∧ v = .int .i64 E ∧ I + 3 + runB 39 2 s (I + 3) = E + runB 39 (I + 5 - E) s E ∧ Below w.heap.size w wi) (fun v _ => I + 5 - (intOf v).toNat)
        case atStart => exact ⟨I + 3, by omega, by omega, by omega, by go_num, by rw [show I + 5 - (I + 3) = 2 by omega], HF.out.2⟩
        case round =>
          obtain ⟨E, hE1, hE2, hE3, rfl, hR, hbi⟩ := hrel
          have HR : Hid (I + 3 + runB 39 2 s (I + 3) = E + runB 39 (I + 5 - E) s E ∧ Below w.heap.size w wr) := ⟨hR, hbi⟩
          clear hR hbi
          by_cases hEn : E < s.size
          · by_cases hE5 : E < I + 5
            · have hEi : (E : Int) < (I : Int) + 3 + 2 := by omega
              by_cases hc : (s[E].toNat : Int) = 39
              · have HS : Hid (I + 3 + runB 39 2 s (I + 3) = E + 1 + runB 39 (I + 5 - (E + 1)) s (E + 1)) := by
                  show I + 3 + runB 39 2 s (I + 3) = _
                  rw [HR.out.1, show I + 5 - E = (I + 5 - (E + 1)) + 1 by omega, b_run_yes 39 _ s hEn hc]
                  omega
                go_wp2
                go_roundw
                case rel => exact ⟨E + 1, by omega, by omega, by omega, by go_num, HS.out, HR.out.2⟩
                case measure => simp [intOf]; omega
              · have hcb : ((s[E].toNat : Int) == 39) = false := by simpa using hc
                have HS : Hid (fromB false true 39 s (i + 3) = E) := by
                  show fromB false true 39 s (i + 3) = E
                  rw [HC.out, HR.out.1, show I + 5 - E = (I + 5 - (E + 1)) + 1 by omega, b_run_no 39 _ s hEn hc]
                  omega
                clear hc
                go_wp2
                go_ret
                exact endPost_of HS.out HR.out.2
            · have hEi : ¬ (E : Int) < (I : Int) + 3 + 2 := by omega
              have HS : Hid (fromB false true 39 s (i + 3) = E) := by
                show fromB false true 39 s (i + 3) = E
                rw [HC.out, HR.out.1, show I + 5 - E = 0 by omega, b_run_zero]
                omega
              go_wp2
              go_ret
              exact endPost_of HS.out HR.out.2
          · have HS : Hid (fromB false true 39 s (i + 3) = E) := by
              show fromB false true 39 s (i + 3) = E
              rw [HC.out, HR.out.1, b_run_end 39 _ s (by omega)]
              omega
            go_wp2
            go_ret
            exact endPost_of HS.out HR.out.2
      · have hp' : preB 39 s I = false := by simpa using hp
        have HS : Hid (fromB false true 39 s (i + 3) = fromB false true 39 s (I + 1)) := by
          show fromB false true 39 s (i + 3) = _
          rw [HF.out.1, b_next false true 39 s hlt (by exact Or.inl rfl) (Or.inl rfl) (Or.inr hp')]
        clear hp
        go_wp2_with fail
        refine (hasPreB s I 39 _).mono ?_
        rintro e w3 ⟨rfl, hw3⟩
        subst hw3
        rw [hp']
        clear hp'
        go_wp2
        go_roundw
        case rel => exact ⟨I + 1, by omega, by go_num, HS.out, HF.out.2⟩
        case measure => simp [intOf]; omega
    · have HS : Hid (fromB false true 39 s (i + 3) = s.size) := by
        show fromB false true 39 s (i + 3) = _
        rw [HF.out.1, b_end false true 39 s (by omega)]
      go_wp2
      go_ret
      exact endPost_of HS.out HF.out.2

set_option maxHeartbeats 800000 in
theorem end39_f (s : ByteArray) (i : Nat) (w : World) (hs : s.size ≤ 1048576) (hi : i < s.size) (hq : (s[i].toNat : Int) = 39) (hm : preB 39 s i = false) :
    Calls Try.prog 11 #[.string s, .int .i64 i] w fun e w' => EndPost (fromB false false 39 s (i + 1)) w e w' := by
  have hcv := conv39
  have hds := del_size 39
  go_enter Try.func11, Try.ntmps11
  go_wp2_with fail
  refine (repeat3 39 _).mono ?_
  rintro e w1 ⟨rfl, hb1⟩
  go_wp2_with fail
  refine (hasPreB s i 39 _).mono ?_
  rintro e w2 ⟨rfl, hw2⟩
  subst hw2
  rw [hm]
  have HB : Hid (Below w.heap.size w w2) := hb1
  clear hb1 hcv hm hq
  go_wp2
  go_loopw [1] (fun v wr => ∃ I : Nat, I ≤ s.size + 1 ∧ v = .int .i64 I ∧ fromB false false 39 s (i + 1) = fromB false false 39 s I ∧ Below w.heap.size w wr) (fun v _ => s.size + 1 - (intOf v).toNat)
  case atStart => exact ⟨i + 1, by omega, by go_num, rfl, HB.out⟩
  case round =>
    obtain ⟨I, hI, rfl, hF, hbr⟩ := hrel
    have HF : Hid (fromB false false 39 s (i + 1) = fromB false false 39 s I ∧ Below w.heap.size w wr) := ⟨hF, hbr⟩
    clear hF hbr HB
    by_cases hlt : I < s.size
    · by_cases hc : (s[I].toNat : Int) = 39
      · have HS : Hid (fromB false false 39 s (i + 1) = I + 1) := by
          show fromB false false 39 s (i + 1) = _
          rw [HF.out.1, b_close false 39 s hlt hc (by exact Or.inl rfl)]
        go_wp2
        go_ret
        exact endPost_of HS.out HF.out.2
      · have hcb : ((s[I].toNat : Int) == 39) = false := by simpa using hc
        have HS : Hid (fromB false false 39 s (i + 1) = fromB false false 39 s (I + 1)) := by
          show fromB false false 39 s (i + 1) = _
          rw [HF.out.1, b_next false false 39 s hlt (by exact Or.inl rfl) (Or.inr hc) (Or.inl rfl)]
        clear hc
        go_wp2
        go_roundw
        case rel => exact ⟨I + 1, by omega, by go_num, HS.out, HF.out.2⟩
        case measure => simp [intOf]; omega
    · have HS : Hid (fromB false false 39 s (i + 1) = s.size) := by
        show fromB false false 39 s (i + 1) = _
        rw [HF.out.1, b_end false false 39 s (by omega)]
      go_wp2
      go_ret
      exact endPost_of HS.out HF.out.2

theorem pre_cases (q : UInt8) (s : ByteArray) (I : Nat) : preB q s I = true ∨ preB q s I = false := by cases preB q s I <;> simp

/-- tomlfile.stringEnd at a quote. -/
theorem stringEnd_any (q : UInt8) (hqq : q = 34 ∨ q = 39) (s : ByteArray) (i : Nat) (w : World) (hs : s.size ≤ 1048576) (hi : i < s.size) (hq : s[i] = q) :
    Calls Try.prog 11 #[.string s, .int .i64 i] w fun e w' => EndPost (strEnd q s.data.toList i) w e w' := by
  rcases hqq with rfl | rfl
  · rcases pre_cases 34 s i with h | h
    · rw [strEnd_multi h (by rw [len_eq]; exact hi)]
      exact end34_t s i w hs hi (by rw [hq]; rfl) h
    · rw [strEnd_plain (by rw [preB] at h; rw [h]; simp) (by rw [len_eq]; exact hi)]
      exact end34_f s i w hs hi (by rw [hq]; rfl) h
  · rcases pre_cases 39 s i with h | h
    · rw [strEnd_multi h (by rw [len_eq]; exact hi)]
      exact end39_t s i w hs hi (by rw [hq]; rfl) h
    · rw [strEnd_plain (by rw [preB] at h; rw [h]; simp) (by rw [len_eq]; exact hi)]
      exact end39_f s i w hs hi (by rw [hq]; rfl) h

set_option maxHeartbeats 400000 in
/-- tomlfile.ZZstringEnd hands on to it. -/
theorem zzStringEnd_any (q : UInt8) (hqq : q = 34 ∨ q = 39) (s : ByteArray) (i : Nat) (w : World) (hs : s.size ≤ 1048576) (hi : i < s.size) (hq : s[i] = q) :
    Calls Try.prog 7 #[.string s, .int .i64 i] w fun e w' => EndPost (strEnd q s.data.toList i) w e w' := by
  have h := stringEnd_any q hqq s i w hs hi hq
  generalize strEnd q s.data.toList i = r at *
  clear hq hqq hs hi
  go_enter Try.func7, Try.ntmps7
  go_wp2_with fail
  refine h.mono ?_
  rintro e w1 ⟨rfl, hb⟩
  go_wp2
  go_ret
  exact ⟨rfl, hb⟩
end Go.Proofs.Qxb6601476a
