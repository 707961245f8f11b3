/-
  Seat b6601407a. FnNamesPlaceExactOnHeldState (F5): the walk.
-/
import Derived.Test.Qxb6601407aHeld
import Derived.RegionTactic
import Derived.ChangeAlike
import Derived.Deep.QuietTactic
import Derived.BigQuiet
namespace Go.Proofs.Qxb6601407a
open Go.RowKit Go.Maps Go.Deep

/-- Behind k rounds of the loop that fills 'first' (block B): the first k names, each once. -/
def Filling (w wr : World) (B : Nat) (hs : List (List UInt8)) (k : Nat) : Prop :=
  (hs.take k).Nodup ∧ (∃ D, wr.ownsMap Try.prog 9 (plainElem Try.prog 3) B k D ∧ Reads D (hs.take k)) ∧ Below B w wr ∧ B + 1 ≤ wr.heap.size

theorem filling_start (w : World) (hs : List (List UInt8)) : Filling w (w.alloc (.map #[] 0)) w.heap.size hs 0 :=
  ⟨by simp, ⟨_, World.ownsMap_made (H := Unit) w Try.prog 9 (plainElem Try.prog 3), by simpa using reads_nil⟩, (Below.refl _ _).alloc (Nat.le_refl _) _, by simp⟩

theorem take_snoc' {α : Type} (hs : List α) (d : α) {k : Nat} (hk : k < hs.length) : hs.take (k + 1) = hs.take k ++ [hs.getD k d] := by
  rw [List.take_succ_eq_append_getElem hk]; simp [List.getD, hk]

/-- The next name is new: it is stored. -/
theorem filling_step {w wr : World} {B : Nat} {hs : List (List UInt8)} {k : Nat} (h : Filling w wr B hs k) (hk : k < hs.length) (hl : hs.length ≤ 65536) (hs1 : (hs.getD k []).length ≤ 1048576) (hn : hs.getD k [] ∉ hs.take k) :
    ∃ w', (Instr.mapUpdate 37 (.map (some B)) (.string (str (hs.getD k []))) (.int .i64 (k : Int))).run Try.prog wr = .ok () w' ∧ Filling w w' B hs (k + 1) ∧ wr.grownBy w' (some B) := by
  obtain ⟨hnd, ⟨D, hD, hR⟩, hb, hsz⟩ := h
  have hkey : keyOf Try.prog 9 (.string (str (hs.getD k []))) = some (.string (hs.getD k [])) := by
    have := WideMaps.keyOf_string_mk (P := Try.prog) (k := 9) Try.underlying9 (s := str (hs.getD k [])) (by rw [str_size]; unfold maxLen; omega)
    rw [str_list] at this; exact this
  obtain ⟨w', h1, h2, h3⟩ := World.ownsMap.update hD law9 Try.underlying37 (by unfold maxLen; omega) (val := .int .i64 (k : Int)) hkey (plainElem_int Try.underlying3 (WalkArith.wf_i64 (by omega)))
  have htl : (hs.take k).length = k := by simp; omega
  have hadd := reads_add hR (hD.tidy law9) hn
  rw [htl] at hadd
  refine ⟨w', h1, ⟨?_, ⟨_, h2, ?_⟩, hb.grown h3 (by omega) (fun j e => by simp at e; omega), Nat.le_trans hsz h3.size⟩, h3⟩
  · rw [take_snoc' hs [] hk, List.nodup_append]
    refine ⟨hnd, by simp, fun a ha b hb e => ?_⟩
    simp only [List.mem_singleton] at hb
    subst hb; subst e
    exact hn ha
  · rw [take_snoc' hs [] hk]; exact hadd

theorem filling_look {w wr : World} {B : Nat} {hs : List (List UInt8)} {k : Nat} {s : List UInt8} (h : Filling w wr B hs k) (hs1 : s.length ≤ 1048576) :
    (Instr.lookup 37 (.map (some B)) (.string (str s)) true).run Try.prog wr = .ok (.tuple #[.int .i64 (if s ∈ hs.take k then ((hs.take k).idxOf s : Int) else 0), .bool (decide (s ∈ hs.take k))]) wr := by
  obtain ⟨hnd, ⟨D, hD, hR⟩, hb, hsz⟩ := h
  exact look_firsts hD hR.firsts hs1

/-- What stands behind the two copies: 'first' (block w.heap.size) reads as hs, held and name lie in memory of the call's own. -/
structure Ready (w w4 : World) (hs : List (List UInt8)) (zs : List Int) (hv nv : Value) : Prop where
  nodup : hs.Nodup
  first : ∃ D, w4.ownsMap Try.prog 9 (plainElem Try.prog 3) w.heap.size hs.length D ∧ Reads D hs
  row : w4.ownsRow 0 9 1 hv hs.length (strCells hs)
  name : w4.ownsRow 0 5 1 nv zs.length (zs.map (Value.int .u8))
  below : Below w.heap.size w w4

theorem Ready.later {w w4 W : World} {hs : List (List UInt8)} {zs : List Int} {hv nv : Value} (h : Ready w w4 hs zs hv nv) (hb : Below w4.heap.size w4 W) : Ready w W hs zs hv nv := by
  have ho : Off (fun _ => False) w4 W := Off.of_below hb
  obtain ⟨D, hD, hR⟩ := h.first
  exact ⟨h.nodup, ⟨D, ho.ownsMap hD (fun h => h), hR⟩, ho.ownsRow h.row (fun _ _ h => h), ho.ownsRow h.name (fun _ _ h => h), h.below.trans (hb.mono h.below.size)⟩

theorem ready_of {w wr w3 w4 : World} {hs : List (List UInt8)} {zs : List Int} {hv nv : Value} (hF : Filling w wr w.heap.size hs hs.length) (h3 : Below wr.heap.size wr w3) (hr : w3.ownsRow wr.heap.size 9 1 hv hs.length (strCells hs)) (h4 : Below w3.heap.size w3 w4)
    (hn : w4.ownsRow w3.heap.size 5 1 nv zs.length (zs.map (Value.int .u8))) : Ready w w4 hs zs hv nv := by
  obtain ⟨hnd, ⟨D, hD, hR⟩, hb, hsz⟩ := hF
  rw [List.take_length] at hnd hR
  have o3 : Off (fun _ => False) wr w3 := Off.of_below h3
  have o4 : Off (fun _ => False) w3 w4 := Off.of_below h4
  exact ⟨hnd, ⟨D, o4.ownsMap (o3.ownsMap hD (fun h => h)) (fun h => h), hR⟩, row_base0 (o4.ownsRow hr (fun _ _ h => h)), row_base0 hn, (hb.trans (h3.mono hb.size)).trans (h4.mono (Nat.le_trans hb.size h3.size))⟩

/-- What stands behind ZZNewNames. -/
def Laid (w4 W : World) (bn : Nat) (l : List (List UInt8)) : Prop := Names W (fun j => w4.heap.size ≤ j) bn l ∧ Below w4.heap.size w4 W ∧ w4.heap.size ≤ W.heap.size

theorem laid_nil (w4 : World) : Laid w4 (w4.alloc (.cells #[.map none, .slice none 0 0] 52)) w4.heap.size [] :=
  ⟨Names.fresh w4 _ (Nat.le_refl _), (Below.refl _ _).alloc (Nat.le_refl _) _, by simp⟩

theorem laid_of {w4 wr w7 : World} {hs : List (List UInt8)} {sv : Value} (hF : Filling w4 wr w4.heap.size hs hs.length) (h7 : Below wr.heap.size wr w7) (hr : w7.ownsRow wr.heap.size 9 1 sv hs.length (strCells hs)) :
    Laid w4 (w7.alloc (.cells #[.map (some w4.heap.size), sv] 52)) w7.heap.size hs := by
  obtain ⟨hnd, ⟨D, hD, hR⟩, hb, hsz⟩ := hF
  rw [List.take_length] at hR
  have hb7 : Below w4.heap.size w4 w7 := hb.trans (h7.mono hb.size)
  have h1 := hb.size
  have h2 := h7.size
  refine ⟨⟨_, _, heap_alloc_new w7 _, by omega, row_base0 (hr.alloc _), fun g hg => ?_, Or.inr ⟨_, D, rfl, Nat.le_refl _, ((Off.of_below (S := fun _ => False) h7).ownsMap hD (fun h => h)).alloc _, hR⟩⟩, hb7.alloc (by omega) _, by simp; omega⟩
  have := (hr.lt g hg).1
  omega

/-- place on it. -/
theorem laid_place {w4 W w9 : World} {bn : Nat} {l : List (List UInt8)} {n : List UInt8} (h : Laid w4 W bn l) (hN : Names w9 (Wider (fun j => w4.heap.size ≤ j) W) bn (addName l n)) (ho : Off (fun j => w4.heap.size ≤ j) W w9) : Laid w4 w9 bn (addName l n) := by
  obtain ⟨_, hb, hs⟩ := h
  refine ⟨hN.mono (fun j _ hj => ?_), hb.trans (ho.below hs (fun j hj e => by omega)), Nat.le_trans hs ho.size⟩
  rcases hj with h | h
  · exact h
  · exact Nat.le_trans hs h

/-- What the last loop stands on. -/
structure Ending5 (w4 W : World) (bn : Nat) (l : List (List UInt8)) (av : Value) : Prop where
  laid : Laid w4 W bn l
  after : W.ownsRow 0 9 1 av l.length (strCells l)

theorem Ending5.same {w4 W W' : World} {bn : Nat} {l : List (List UInt8)} {av : Value} (h : Ending5 w4 W bn l av) (hh : W'.heap = W.heap) (ho : W'.os = W.os) (hu : W'.output = W.output) (ht : W'.tape = W.tape) : Ending5 w4 W' bn l av := by
  have hoff : Off (fun _ => False) W W' := ⟨ho, ht, hu, by rw [hh]; exact Nat.le_refl _, fun j _ _ => by rw [hh]⟩
  obtain ⟨⟨hN, hb, hs⟩, ha⟩ := h
  exact ⟨⟨hN.off hoff (fun _ _ _ h => h), ⟨ho.trans hb.os, ht.trans hb.tape, hu.trans hb.output, by rw [hh]; exact hb.size, fun j hj => by rw [hh]; exact hb.block j hj⟩, by rw [hh]; exact hs⟩, hoff.ownsRow ha (fun _ _ h => h)⟩

theorem cells_at {w : World} {a : Option Addr} {c n : Nat} {l : List (List UInt8)} (h : w.ownsRow 0 9 1 (.slice a n c) n (strCells l)) {k : Nat} (hk : k < n) {s : List UInt8} (hs : l[k]? = some s) : ∃ g, a = some ⟨g, 0, none⟩ ∧ w.cell? ⟨g, k, none⟩ = some (.string (str s)) := by
  rcases ownsRow_shape h with ⟨_, h0, _⟩ | ⟨g, cap, hv, _, _, hc, _⟩
  · omega
  · simp only [Value.slice.injEq, true_and] at hv
    exact ⟨g, hv.1, by rw [hc k hk]; simp [strCells, hs]⟩

theorem addName_get {hs : List (List UInt8)} {n : List UInt8} {k : Nat} (hk : k < hs.length) : (addName hs n)[k]? = some (hs.getD k []) := by
  unfold addName
  split
  · simp [List.getD, hk]
  · rw [List.getElem?_append_left hk]; simp [List.getD, hk]

theorem addName_idx {hs : List (List UInt8)} {n : List UInt8} {k : Nat} (hnd : hs.Nodup) (hk : k < hs.length) : (addName hs n).idxOf (hs.getD k []) = k := by
  have hm : hs.getD k [] ∈ hs := by simp [List.getD, hk]
  rw [idxOf_addName hm]
  have : hs.getD k [] = hs[k] := by simp [List.getD, hk]
  rw [this]
  exact List.Nodup.idxOf_getElem hnd k hk

theorem not_mem_take {hs : List (List UInt8)} (hnd : hs.Nodup) {k : Nat} (hk : k < hs.length) : hs.getD k [] ∉ hs.take k := by
  intro h
  obtain ⟨j, hj, e⟩ := List.mem_iff_getElem.1 h
  simp only [List.length_take] at hj
  rw [List.getElem_take] at e
  have e2 : hs.getD k [] = hs[k] := by simp [List.getD, hk]
  rw [e2] at e
  have h1 := List.Nodup.idxOf_getElem hnd j (by omega)
  have h2 := List.Nodup.idxOf_getElem hnd k hk
  rw [e, h2] at h1
  omega

theorem len_addName (hs : List (List UInt8)) (n : List UInt8) : hs.length ≤ (addName hs n).length := by
  unfold addName; split <;> simp

theorem addName_mem {hs : List (List UInt8)} {n : List UInt8} {k : Nat} (hk : k < hs.length) : hs.getD k [] ∈ addName hs n := mem_addName.2 (Or.inl (by simp [List.getD, hk]))

set_option maxRecDepth 100000 in
set_option maxHeartbeats 2000000 in
theorem walk5 {w : World} {a : Option Addr} {c : Nat} {hs : List (List UInt8)} {na : Option Addr} {nc : Nat} {zs : List Int} (hv : StrView w (.slice a hs.length c) hs) (hv2 : ByteView w (.slice na zs.length nc) zs) (hzm : zs.length ≤ maxLen) (hhm : hs.length ≤ maxLen) :
    Calls Try.prog 5 #[.slice a hs.length c, .slice na zs.length nc] w fun e w' => Post w e w' := by
  have hmm := @run_makeMap Try.prog
  have h15 := bytes15_any hv na zs.length nc hzm
  unfold maxLen at hzm hhm
  have HV : Hid (StrView w (.slice a hs.length c) hs) := hv
  have HV2 : Hid (ByteView w (.slice na zs.length nc) zs) := hv2
  have HZ : Hid (hs = [] ∨ ∃ b o, a = some ⟨b, o, none⟩ ∧ ∀ i, i < hs.length → w.cell? ⟨b, o + i, none⟩ = some (.string (str (hs.getD i [])))) := by
    obtain ⟨a0, c0, e0, h⟩ := hv
    simp only [Value.slice.injEq, true_and] at e0
    obtain ⟨rfl, rfl⟩ := e0
    exact h
  clear hv hv2
  by_cases hn : hs.length ≤ 65536
  case neg =>
    go_enter Try.func5, Try.ntmps5
    go_wp2_with fail
    refine h15.mono ?_
    rintro e w' ⟨b, rfl, rfl⟩
    cases b
    · go_wp2
      go_ret
      exact ⟨rfl, Below.refl _ _⟩
    go_wp2
    go_ret
    exact ⟨rfl, Below.refl _ _⟩
  by_cases hzl : zs.length ≤ 1048576
  case neg =>
    go_enter Try.func5, Try.ntmps5
    go_wp2_with fail
    refine h15.mono ?_
    rintro e w' ⟨b, rfl, rfl⟩
    cases b
    · go_wp2
      go_ret
      exact ⟨rfl, Below.refl _ _⟩
    go_wp2
    go_ret
    exact ⟨rfl, Below.refl _ _⟩
  go_enter Try.func5, Try.ntmps5
  go_wp2_with fail
  refine h15.mono ?_
  rintro e w' ⟨b, rfl, rfl⟩
  clear h15
  cases b
  · go_wp2
    go_ret
    exact ⟨rfl, Below.refl _ _⟩
  go_wp2
  go_loop [5, 6] (fun t i => ∃ k : Nat, k ≤ hs.length ∧ i = .int .i64 k ∧ (∃ T : Int, t = .int .i64 T ∧ 0 ≤ T ∧ T ≤ 2097152) ∧ ∀ j, j < k → (hs.getD j []).length ≤ 1048576) (fun _ i => hs.length - (intOf i).toNat)
  case atStart => exact ⟨0, Nat.zero_le _, rfl, ⟨_, rfl, by omega, by omega⟩, fun j hj => by omega⟩
  case round =>
    obtain ⟨k, hk, rfl, ⟨T, rfl, hT0, hT1⟩, hall⟩ := hrel
    have HA : Hid (∀ j, j < k → (hs.getD j []).length ≤ 1048576) := hall
    clear hall
    by_cases hlt : k < hs.length
    · obtain ⟨b, o, rfl, hcx⟩ := strView_cell HZ.out hlt
      have HQ : Hid ((str (hs.getD k [])).size = (hs.getD k []).length) := str_size _
      generalize hq : str (hs.getD k []) = q at hcx
      have HQ2 : Hid (str (hs.getD k []) = q) := hq
      clear hq HZ HV HV2
      by_cases hq1 : q.size ≤ 1048576
      · go_wp2
        · go_ret
          exact ⟨rfl, Below.refl _ _⟩
        · go_round
          case rel => exact ⟨k + 1, by omega, by go_num, ⟨_, rfl, by omega, by omega⟩, fun j hj => by
            by_cases e : j = k
            · rw [e, ← HQ.out, HQ2.out]; exact hq1
            · exact HA.out j (by omega)⟩
          case measure => simp [intOf]; omega
      · go_wp2
        go_ret
        exact ⟨rfl, Below.refl _ _⟩
    · have hall : ∀ j, j < hs.length → (hs.getD j []).length ≤ 1048576 := fun j hj => HA.out j (by omega)
      have HL : Hid (∀ j, j < hs.length → (hs.getD j []).length ≤ 1048576) := hall
      clear hall HA
      by_cases hTT : T ≤ 1048576
      case neg =>
        go_wp2
        go_ret
        exact ⟨rfl, Below.refl _ _⟩
      have hstart := filling_start w' hs
      go_wp2
      clear hTT hT0 hT1 hlt hk
      go_loopw [8] (fun i wr => ∃ k : Nat, k ≤ hs.length ∧ i = .int .i64 k ∧ Filling w' wr w'.heap.size hs k) (fun i _ => hs.length - (intOf i).toNat)
      case atStart => exact ⟨0, Nat.zero_le _, rfl, hstart⟩
      case round =>
        obtain ⟨k, hk, rfl, hF⟩ := hrel
        clear hstart
        by_cases hlt : k < hs.length
        · obtain ⟨b, o, rfl, hcx0⟩ := strView_cell HZ.out hlt
          have hcx := cell_kept hF.2.2.1 hcx0
          have hlook := filling_look hF (HL.out k hlt)
          by_cases hin : hs.getD k [] ∈ hs.take k
          · have hbel := hF.2.2.1
            rw [if_pos hin, decide_eq_true hin] at hlook
            have HBel : Hid (Below w'.heap.size w' wr) := hbel
            clear hF hbel hcx0 HZ HV HV2 HL hin
            generalize str (hs.getD k []) = q at *
            generalize ((hs.take k).idxOf (hs.getD k []) : Int) = r at *
            go_wp2
            go_ret
            exact ⟨rfl, HBel.out⟩
          · rw [if_neg hin, decide_eq_false hin] at hlook
            obtain ⟨w2, hupd, hF2, hg2⟩ := filling_step hF hlt hn (HL.out k hlt) hin
            have HF2 : Hid (Filling w' w2 w'.heap.size hs (k + 1)) := hF2
            clear hF hcx0 HZ HV HV2 HL hin hF2 hg2
            generalize str (hs.getD k []) = q at *
            go_wp2
            go_roundw
            case rel => exact ⟨k + 1, by omega, by go_num, HF2.out⟩
            case measure => simp [intOf]; omega
        · obtain rfl : k = hs.length := by omega
          have h16 := copyStrings_any (HV.out.below hF.2.2.1) (by omega)
          clear HZ hlt hk
          have HFF : Hid (Filling w' wr w'.heap.size hs hs.length) := hF
          clear hF
          go_wp2_with fail
          refine h16.mono ?_
          rintro e w3 ⟨a3, c3, rfl, hrow3, hb3, hnil3⟩
          clear h16 hnil3
          have hbw3 : Below w'.heap.size w' w3 := HFF.out.2.2.1.trans (hb3.mono HFF.out.2.2.1.size)
          have h17 := copyBytes_any (HV2.out.below hbw3) hzl
          clear hbw3
          have HR3 : Hid (w3.ownsRow wr.heap.size 9 1 (.slice a3 hs.length c3) hs.length (strCells hs)) := hrow3
          have HB3 : Hid (Below wr.heap.size wr w3) := hb3
          clear hrow3 hb3
          go_wp2_with fail
          refine h17.mono ?_
          rintro e w4 ⟨v4, rfl, hrow4, hb4⟩
          clear h17 HV HV2
          have hRdy := ready_of HFF.out HB3.out HR3.out hb4 hrow4
          obtain ⟨na4, nc4, e4⟩ := own_slice5 hrow4
          rw [e4] at hRdy ⊢
          have HRdy : Hid (Ready w' w4 hs zs (.slice a3 hs.length c3) (.slice na4 zs.length nc4)) := hRdy
          clear hRdy hrow4 hb4 e4 HFF HB3
          have q34 : ∀ (w : World) (a : Option Addr) (n c : Nat), (binOp .neq 34 (.slice a n c) (.slice none 0 0)).run Try.prog w = .ok (.bool (!a.isNone)) w := fun w a n c => run_neq_slice_nil_any w _ _ a n c _ _ Try.underlying34
          cases a3 with
          | none =>
            have h0 : hs = [] := by
              rcases ownsRow_shape HR3.out with ⟨_, h0, _⟩ | ⟨g, cap, hv, _⟩
              · exact List.length_eq_zero_iff.1 h0
              · simp at hv
            have H0 : Hid (hs = []) := h0
            clear h0 HR3
            go_wp2_with fail
            refine (copyStrings_nil _ _ _).mono ?_
            rintro e w7 ⟨rfl, rfl⟩
            go_wp2_with fail
            refine (newNames_any none none 0 0 _).mono ?_
            rintro e w8 ⟨rfl, hw8⟩
            have HLaid : Hid (Laid w7 w8 w7.heap.size hs) := by rw [H0.out, hw8]; exact laid_nil w7
            clear hw8
            obtain ⟨w4, rfl⟩ : ∃ w4, w4 = w7 := ⟨_, rfl⟩
            generalize w4.heap.size = bn at HLaid ⊢
            have HX : Hid (bytesOf zs ∉ hs) := by
              show bytesOf zs ∉ hs
              rw [H0.out]; simp
            have hR8 := HRdy.out.later HLaid.out.2.1
            have hcv8 := conv_own hR8.name
            obtain ⟨D8, hD8, hF8⟩ := hR8.first
            have hlk8 := look_firsts hD8 hF8.firsts (s := bytesOf zs) (by rw [bytesOf_len]; exact hzl)
            have hcall := zzPlace_any HLaid.out.1 hR8.name (by omega) hzl
            have HP : Hid (∀ w9, Names w9 (Wider (fun j => w4.heap.size ≤ j) w8) bn (addName hs (bytesOf zs)) → Off (fun j => w4.heap.size ≤ j) w8 w9 → Laid w4 w9 bn (addName hs (bytesOf zs))) := fun w9 h1 h2 => laid_place HLaid.out h1 h2
            clear hR8 hD8 hF8 HLaid
            have hin := HX.out
            rw [if_neg hin, decide_eq_false hin] at hlk8
            rw [List.idxOf_eq_length hin] at hcall
            have hadd : (addName hs (bytesOf zs)).length = hs.length + 1 := by rw [addName, if_neg hin]; simp
            have hget : (addName hs (bytesOf zs))[hs.length]? = some (bytesOf zs) := by rw [addName, if_neg hin]; simp
            have hidx : (addName hs (bytesOf zs)).idxOf (bytesOf zs) = hs.length := by rw [idxOf_addName_self, List.idxOf_eq_length hin]
            have hmem : bytesOf zs ∈ addName hs (bytesOf zs) := mem_addName.2 (Or.inr rfl)
            have HH : Hid ((addName hs (bytesOf zs)).length = hs.length + 1 ∧ (addName hs (bytesOf zs))[hs.length]? = some (bytesOf zs) ∧ (addName hs (bytesOf zs)).idxOf (bytesOf zs) = hs.length ∧ bytesOf zs ∈ addName hs (bytesOf zs)) := ⟨hadd, hget, hidx, hmem⟩
            clear hin hadd hget hidx hmem
            obtain ⟨s8, hs8⟩ : ∃ s8, s8 = str (bytesOf zs) := ⟨_, rfl⟩
            rw [← hs8] at hlk8 hcall hcv8
            have HS8 : Hid (s8 = str (bytesOf zs)) := hs8
            clear hs8
            go_wp2_with fail
            refine hcall.mono ?_
            rintro e w9 ⟨rfl, hN9, hO9⟩
            have hL9 := HP.out w9 hN9 hO9
            have h20 := namesHeld_any hL9.1
            clear hcall hN9 hO9 HP hlk8 hcv8
            go_wp2_with fail
            refine h20.mono ?_
            rintro e w10 ⟨a10, c10, rfl, rfl, hrow10⟩
            have HEnd : Hid (Ending5 w4 w10 bn (addName hs (bytesOf zs)) (.slice a10 (addName hs (bytesOf zs)).length c10)) := ⟨hL9, hrow10⟩
            have h21 := fun q => namesCount_any (HEnd.out.same (W' := w10.drewN q) rfl rfl rfl rfl).laid.1
            have h22 := fun q => namesLookup_any (s := bytesOf zs) (HEnd.out.same (W' := w10.drewN q) rfl rfl rfl rfl).laid.1 (by rw [bytesOf_len]; exact hzl) HH.out.2.2.2
            have hcv := fun q => conv_own (HRdy.out.later (HEnd.out.same (W' := w10.drewN q) rfl rfl rfl rfl).laid.2.1).name
            obtain ⟨ga0, ea0, hca0⟩ := cells_at hrow10 (k := hs.length) (by rw [HH.out.1]; omega) HH.out.2.1
            rw [HH.out.2.2.1, ← HS8.out] at h22
            rw [← HS8.out] at hcv hca0
            rw [HH.out.1] at h21 ⊢
            clear h20 hL9 hrow10 HH HS8
            subst ea0
            have hy1 : (hs.length : Int) < (hs.length : Int) + 1 := by omega
            have hy0 : (0 : Int) ≤ (hs.length : Int) := by omega
            go_wp2
            go_quiet (fail)
            go_wp2_with fail
            refine (h21 _).mono ?_
            rintro e w11 ⟨rfl, hw11⟩
            subst hw11
            clear h21
            go_wp2_with fail
            refine (h22 _).mono ?_
            rintro e w12 ⟨rfl, hw12⟩
            subst hw12
            clear h22 hca0 hcv
            obtain ⟨wo2, rfl⟩ : ∃ wo : World, wo = wr := ⟨_, rfl⟩
            go_wp2
            go_loopw [22] (fun i wr => ∃ k : Nat, k ≤ hs.length ∧ i = .int .i64 k ∧ Ending5 w4 wr bn (addName hs (bytesOf zs)) (.slice (some ⟨ga0, 0, none⟩) (addName hs (bytesOf zs)).length c10)) (fun i _ => hs.length - (intOf i).toNat)
            case atStart => exact ⟨0, Nat.zero_le _, rfl, HEnd.out.same rfl rfl rfl rfl⟩
            case round =>
              obtain ⟨k, hk, rfl, hE⟩ := hrel
              clear HEnd
              by_cases hlt : k < hs.length
              · have h0 := H0.out
                rw [h0] at hlt
                simp at hlt
              · have HBel : Hid (Below w'.heap.size w' wr) := (HRdy.out.later hE.laid.2.1).below
                clear hE HRdy HL
                go_wp2
                go_ret
                exact ⟨rfl, HBel.out⟩
          | some a3 =>
            clear HR3
            obtain ⟨wo, rfl⟩ : ∃ wo : World, wo = wr := ⟨_, rfl⟩
            have hstart3 := filling_start w4 hs
            go_wp2
            go_loopw [12] (fun i wi => ∃ k : Nat, k ≤ hs.length ∧ i = .int .i64 k ∧ Filling w4 wi w4.heap.size hs k) (fun i _ => hs.length - (intOf i).toNat)
            case atStart => exact ⟨0, Nat.zero_le _, rfl, hstart3⟩
            case round =>
              obtain ⟨k, hk, rfl, hF⟩ := hrel
              clear hstart3
              by_cases hlt : k < hs.length
              · obtain ⟨gh, eh, hch⟩ := cells_at (HRdy.out.later hF.2.2.1).row hlt (s := hs.getD k []) (by simp [List.getD, hlt])
                simp only [Option.some.injEq] at eh
                subst eh
                obtain ⟨w6, hupd, hF6, hg6⟩ := filling_step hF hlt hn (HL.out k hlt) (not_mem_take HRdy.out.nodup hlt)
                have HF6 : Hid (Filling w4 w6 w4.heap.size hs (k + 1)) := hF6
                clear hF hF6 hg6 HRdy HL
                generalize str (hs.getD k []) = s at *
                go_wp2
                go_roundw
                case rel => exact ⟨k + 1, by omega, by go_num, HF6.out⟩
                case measure => simp [intOf]; omega
              · obtain rfl : k = hs.length := by omega
                have h16 := copyStrings_any (strView_own (HRdy.out.later hF.2.2.1).row) (by omega)
                have HF6 : Hid (Filling w4 wr w4.heap.size hs hs.length) := hF
                clear hF hlt hk
                go_wp2_with fail
                refine h16.mono ?_
                rintro e w7 ⟨a7, c7, rfl, hrow7, hb7, _⟩
                have HLA : Hid (Laid w4 (w7.alloc (.cells #[.map (some w4.heap.size), .slice a7 hs.length c7] 52)) w7.heap.size hs) := laid_of HF6.out hb7 hrow7
                clear h16 hrow7 hb7 HF6
                go_wp2_with fail
                refine (newNames_any (some w4.heap.size) a7 hs.length c7 _).mono ?_
                rintro e w8 ⟨rfl, hw8⟩
                have HLaid : Hid (Laid w4 w8 w7.heap.size hs) := by rw [hw8]; exact HLA.out
                clear hw8 HLA
                generalize w7.heap.size = bn at HLaid ⊢
                have hR8 := HRdy.out.later HLaid.out.2.1
                have hcv8 := conv_own hR8.name
                obtain ⟨D8, hD8, hF8⟩ := hR8.first
                have hlk8 := look_firsts hD8 hF8.firsts (s := bytesOf zs) (by rw [bytesOf_len]; exact hzl)
                have hcall := zzPlace_any HLaid.out.1 hR8.name (by omega) hzl
                have HP : Hid (∀ w9, Names w9 (Wider (fun j => w4.heap.size ≤ j) w8) bn (addName hs (bytesOf zs)) → Off (fun j => w4.heap.size ≤ j) w8 w9 → Laid w4 w9 bn (addName hs (bytesOf zs))) := fun w9 h1 h2 => laid_place HLaid.out h1 h2
                clear hR8 hD8 hF8 HLaid
                by_cases hin : bytesOf zs ∈ hs
                · rw [if_pos hin, decide_eq_true hin] at hlk8
                  have hp := List.idxOf_lt_length_of_mem hin
                  have hgp : hs[hs.idxOf (bytesOf zs)]? = some (bytesOf zs) := by rw [List.getElem?_eq_getElem hp, List.getElem_idxOf]
                  have hadd : (addName hs (bytesOf zs)).length = hs.length := by rw [addName, if_pos hin]
                  have HH : Hid ((addName hs (bytesOf zs)).length = hs.length ∧ hs[hs.idxOf (bytesOf zs)]? = some (bytesOf zs)) := ⟨hadd, hgp⟩
                  clear hin hadd hgp
                  obtain ⟨pp, hpp⟩ : ∃ pp, pp = hs.idxOf (bytesOf zs) := ⟨_, rfl⟩
                  rw [← hpp] at hlk8 hcall hp
                  have HPP : Hid (pp = hs.idxOf (bytesOf zs)) := hpp
                  clear hpp
                  obtain ⟨s8, hs8⟩ : ∃ s8, s8 = str (bytesOf zs) := ⟨_, rfl⟩
                  rw [← hs8] at hlk8 hcall hcv8
                  have HS8 : Hid (s8 = str (bytesOf zs)) := hs8
                  clear hs8
                  go_wp2_with fail
                  refine hcall.mono ?_
                  rintro e w9 ⟨rfl, hN9, hO9⟩
                  have hL9 := HP.out w9 hN9 hO9
                  have h20 := namesHeld_any hL9.1
                  clear hcall hN9 hO9 HP hlk8 hcv8
                  go_wp2_with fail
                  refine h20.mono ?_
                  rintro e w10 ⟨a10, c10, rfl, rfl, hrow10⟩
                  have h21 := namesCount_any hL9.1
                  obtain ⟨gh0, eh0, hch0⟩ := cells_at (HRdy.out.later hL9.2.1).row hp (by rw [HPP.out]; exact HH.out.2)
                  rw [← HS8.out] at hch0
                  have HL9 : Hid (Laid w4 w10 bn (addName hs (bytesOf zs)) ∧ w10.ownsRow 0 9 1 (.slice a10 (addName hs (bytesOf zs)).length c10) (addName hs (bytesOf zs)).length (strCells (addName hs (bytesOf zs)))) := ⟨hL9, hrow10⟩
                  rw [HH.out.1] at h21 ⊢
                  clear h20 hL9 hrow10
                  simp only [Option.some.injEq] at eh0
                  subst eh0
                  have hy1 : (pp : Int) < (hs.length : Int) := by omega
                  have hy0 : (0 : Int) ≤ (pp : Int) := by omega
                  go_wp2_with fail
                  refine h21.mono ?_
                  rintro e w11 ⟨rfl, rfl⟩
                  clear h21
                  have HEnd : Hid (Ending5 w4 w11 bn (addName hs (bytesOf zs)) (.slice a10 (addName hs (bytesOf zs)).length c10)) := ⟨HL9.out.1, HL9.out.2⟩
                  clear HL9 HH HPP HS8
                  obtain ⟨wo2, rfl⟩ : ∃ wo : World, wo = wr := ⟨_, rfl⟩
                  go_wp2
                  go_loopw [22] (fun i wr => ∃ k : Nat, k ≤ hs.length ∧ i = .int .i64 k ∧ Ending5 w4 wr bn (addName hs (bytesOf zs)) (.slice a10 (addName hs (bytesOf zs)).length c10)) (fun i _ => hs.length - (intOf i).toNat)
                  case atStart => exact ⟨0, Nat.zero_le _, rfl, HEnd.out.same rfl rfl rfl rfl⟩
                  case round =>
                    obtain ⟨k, hk, rfl, hE⟩ := hrel
                    clear HEnd
                    by_cases hlt : k < hs.length
                    · obtain ⟨ga, ea, hca⟩ := cells_at hE.after (k := k) (Nat.lt_of_lt_of_le hlt (len_addName hs (bytesOf zs))) (addName_get hlt)
                      obtain ⟨gh, eh, hch⟩ := cells_at (HRdy.out.later hE.laid.2.1).row hlt (s := hs.getD k []) (by simp [List.getD, hlt])
                      have h22 := fun q => namesLookup_any (s := hs.getD k []) (hE.same (W' := wr.drewN q) rfl rfl rfl rfl).laid.1 (HL.out k hlt) (addName_mem hlt)
                      rw [addName_idx HRdy.out.nodup hlt] at h22
                      have HE : Hid (Ending5 w4 wr bn (addName hs (bytesOf zs)) (.slice a10 (addName hs (bytesOf zs)).length c10)) := hE
                      clear hE HRdy HL
                      cases ea
                      cases eh
                      generalize str (hs.getD k []) = s at *
                      have hx2 : (k : Int) < (hs.length : Int) := by omega
                      have hx1 : (k : Int) < (hs.length : Int) + 1 := by omega
                      have hx0 : (0 : Int) ≤ (k : Int) := by omega
                      go_wp2
                      go_quiet (fail)
                      go_wp2_with fail
                      refine (h22 _).mono ?_
                      rintro e w12 ⟨rfl, hw12⟩
                      subst hw12
                      clear h22
                      go_wp2
                      go_roundw
                      case rel => exact ⟨k + 1, by omega, by go_num, HE.out.same rfl rfl rfl rfl⟩
                      case measure => simp [intOf]; omega
                    · have HBel : Hid (Below w'.heap.size w' wr) := (HRdy.out.later hE.laid.2.1).below
                      clear hE HRdy HL
                      go_wp2
                      go_ret
                      exact ⟨rfl, HBel.out⟩
                · rw [if_neg hin, decide_eq_false hin] at hlk8
                  rw [List.idxOf_eq_length hin] at hcall
                  have hadd : (addName hs (bytesOf zs)).length = hs.length + 1 := by rw [addName, if_neg hin]; simp
                  have hget : (addName hs (bytesOf zs))[hs.length]? = some (bytesOf zs) := by rw [addName, if_neg hin]; simp
                  have hidx : (addName hs (bytesOf zs)).idxOf (bytesOf zs) = hs.length := by rw [idxOf_addName_self, List.idxOf_eq_length hin]
                  have hmem : bytesOf zs ∈ addName hs (bytesOf zs) := mem_addName.2 (Or.inr rfl)
                  have HH : Hid ((addName hs (bytesOf zs)).length = hs.length + 1 ∧ (addName hs (bytesOf zs))[hs.length]? = some (bytesOf zs) ∧ (addName hs (bytesOf zs)).idxOf (bytesOf zs) = hs.length ∧ bytesOf zs ∈ addName hs (bytesOf zs)) := ⟨hadd, hget, hidx, hmem⟩
                  clear hin hadd hget hidx hmem
                  obtain ⟨s8, hs8⟩ : ∃ s8, s8 = str (bytesOf zs) := ⟨_, rfl⟩
                  rw [← hs8] at hlk8 hcall hcv8
                  have HS8 : Hid (s8 = str (bytesOf zs)) := hs8
                  clear hs8
                  go_wp2_with fail
                  refine hcall.mono ?_
                  rintro e w9 ⟨rfl, hN9, hO9⟩
                  have hL9 := HP.out w9 hN9 hO9
                  have h20 := namesHeld_any hL9.1
                  clear hcall hN9 hO9 HP hlk8 hcv8
                  go_wp2_with fail
                  refine h20.mono ?_
                  rintro e w10 ⟨a10, c10, rfl, rfl, hrow10⟩
                  have HEnd : Hid (Ending5 w4 w10 bn (addName hs (bytesOf zs)) (.slice a10 (addName hs (bytesOf zs)).length c10)) := ⟨hL9, hrow10⟩
                  have h21 := fun q => namesCount_any (HEnd.out.same (W' := w10.drewN q) rfl rfl rfl rfl).laid.1
                  have h22 := fun q => namesLookup_any (s := bytesOf zs) (HEnd.out.same (W' := w10.drewN q) rfl rfl rfl rfl).laid.1 (by rw [bytesOf_len]; exact hzl) HH.out.2.2.2
                  have hcv := fun q => conv_own (HRdy.out.later (HEnd.out.same (W' := w10.drewN q) rfl rfl rfl rfl).laid.2.1).name
                  obtain ⟨ga0, ea0, hca0⟩ := cells_at hrow10 (k := hs.length) (by rw [HH.out.1]; omega) HH.out.2.1
                  rw [HH.out.2.2.1, ← HS8.out] at h22
                  rw [← HS8.out] at hcv hca0
                  rw [HH.out.1] at h21 ⊢
                  clear h20 hL9 hrow10 HH HS8
                  subst ea0
                  have hy1 : (hs.length : Int) < (hs.length : Int) + 1 := by omega
                  have hy0 : (0 : Int) ≤ (hs.length : Int) := by omega
                  go_wp2
                  go_quiet (fail)
                  go_wp2_with fail
                  refine (h21 _).mono ?_
                  rintro e w11 ⟨rfl, hw11⟩
                  subst hw11
                  clear h21
                  go_wp2_with fail
                  refine (h22 _).mono ?_
                  rintro e w12 ⟨rfl, hw12⟩
                  subst hw12
                  clear h22 hca0 hcv
                  obtain ⟨wo2, rfl⟩ : ∃ wo : World, wo = wr := ⟨_, rfl⟩
                  go_wp2
                  go_loopw [22] (fun i wr => ∃ k : Nat, k ≤ hs.length ∧ i = .int .i64 k ∧ Ending5 w4 wr bn (addName hs (bytesOf zs)) (.slice (some ⟨ga0, 0, none⟩) (addName hs (bytesOf zs)).length c10)) (fun i _ => hs.length - (intOf i).toNat)
                  case atStart => exact ⟨0, Nat.zero_le _, rfl, HEnd.out.same rfl rfl rfl rfl⟩
                  case round =>
                    obtain ⟨k, hk, rfl, hE⟩ := hrel
                    clear HEnd
                    by_cases hlt : k < hs.length
                    · obtain ⟨ga, ea, hca⟩ := cells_at hE.after (k := k) (Nat.lt_of_lt_of_le hlt (len_addName hs (bytesOf zs))) (addName_get hlt)
                      obtain ⟨gh, eh, hch⟩ := cells_at (HRdy.out.later hE.laid.2.1).row hlt (s := hs.getD k []) (by simp [List.getD, hlt])
                      have h22 := fun q => namesLookup_any (s := hs.getD k []) (hE.same (W' := wr.drewN q) rfl rfl rfl rfl).laid.1 (HL.out k hlt) (addName_mem hlt)
                      rw [addName_idx HRdy.out.nodup hlt] at h22
                      have HE : Hid (Ending5 w4 wr bn (addName hs (bytesOf zs)) (.slice (some ⟨ga0, 0, none⟩) (addName hs (bytesOf zs)).length c10)) := hE
                      clear hE HRdy HL
                      cases ea
                      cases eh
                      generalize str (hs.getD k []) = s at *
                      have hx2 : (k : Int) < (hs.length : Int) := by omega
                      have hx1 : (k : Int) < (hs.length : Int) + 1 := by omega
                      have hx0 : (0 : Int) ≤ (k : Int) := by omega
                      go_wp2
                      go_quiet (fail)
                      go_wp2_with fail
                      refine (h22 _).mono ?_
                      rintro e w12 ⟨rfl, hw12⟩
                      subst hw12
                      clear h22
                      go_wp2
                      go_roundw
                      case rel => exact ⟨k + 1, by omega, by go_num, HE.out.same rfl rfl rfl rfl⟩
                      case measure => simp [intOf]; omega
                    · have HBel : Hid (Below w'.heap.size w' wr) := (HRdy.out.later hE.laid.2.1).below
                      clear hE HRdy HL
                      go_wp2
                      go_ret
                      exact ⟨rfl, HBel.out⟩
end Go.Proofs.Qxb6601407a
