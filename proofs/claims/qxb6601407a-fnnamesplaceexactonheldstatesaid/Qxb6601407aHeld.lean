/-
  Seat b6601407a. What FnNamesPlaceExactOnHeldState (F5) calls: zzBytes_.. (F15), zzCopyStrings (F16), ZZNewNames (F18), ZZNamesHeld (F20), ZZNamesCount (F21), ZZNamesLookup (F22).
-/
import Derived.Test.Qxb6601407aScript
namespace Go.Proofs.Qxb6601407a
open Go.RowKit Go.Maps Go.Deep

/-- A list of names as cells. -/
def strCells (l : List (List UInt8)) : List Value := l.map fun s => Value.string (str s)

/-- v is a []string of the names hs, wherever it lies. -/
def StrView (w : World) (v : Value) (hs : List (List UInt8)) : Prop :=
  ∃ a c, v = .slice a hs.length c ∧ (hs = [] ∨ ∃ b o, a = some ⟨b, o, none⟩ ∧ ∀ i, i < hs.length → w.cell? ⟨b, o + i, none⟩ = some (.string (str (hs.getD i []))))

theorem StrView.below {w w' : World} {v : Value} {hs : List (List UInt8)} (h : StrView w v hs) (hb : Below w.heap.size w w') : StrView w' v hs := by
  obtain ⟨a, c, rfl, h⟩ := h
  refine ⟨a, c, rfl, ?_⟩
  rcases h with h | ⟨b, o, rfl, h⟩
  · exact Or.inl h
  · exact Or.inr ⟨b, o, rfl, fun j hj => cell_kept hb (h j hj)⟩

theorem strView_cell {w : World} {a : Option Addr} {hs : List (List UInt8)} {k : Nat} (h : hs = [] ∨ ∃ b o, a = some ⟨b, o, none⟩ ∧ ∀ i, i < hs.length → w.cell? ⟨b, o + i, none⟩ = some (.string (str (hs.getD i [])))) (hk : k < hs.length) :
    ∃ b o, a = some ⟨b, o, none⟩ ∧ w.cell? ⟨b, o + k, none⟩ = some (.string (str (hs.getD k []))) := by
  rcases h with rfl | ⟨b, o, ha, h⟩
  · simp at hk
  · exact ⟨b, o, ha, h k hk⟩

/-- A row of strings of the call's own is such a slice. -/
theorem strView_own {w : World} {B : Nat} {v : Value} {hs : List (List UInt8)} (h : w.ownsRow B 9 1 v hs.length (strCells hs)) : StrView w v hs := by
  rcases ownsRow_shape h with ⟨rfl, h0, _⟩ | ⟨g, cap, rfl, _, _, hc, _⟩
  · exact ⟨none, 0, by rw [h0], Or.inl (List.length_eq_zero_iff.1 h0)⟩
  · refine ⟨_, cap, rfl, Or.inr ⟨g, 0, rfl, fun i hi => ?_⟩⟩
    rw [Nat.zero_add, hc i hi]
    simp [strCells, List.getElem?_eq_getElem hi, List.getD]

set_option maxHeartbeats 400000 in
theorem bytes15_any {w : World} {v : Value} {hs : List (List UInt8)} (hv : StrView w v hs) (na : Option Addr) (nl nc : Nat) (hnl : nl ≤ maxLen) : Calls Try.prog 15 #[v, .slice na nl nc] w fun e w' => JustBool w e w' := by
  unfold maxLen at hnl
  obtain ⟨a, c, rfl, h⟩ := hv
  by_cases hn : hs.length ≤ 1048576
  · have HZ : Hid (hs = [] ∨ ∃ b o, a = some ⟨b, o, none⟩ ∧ ∀ i, i < hs.length → w.cell? ⟨b, o + i, none⟩ = some (.string (str (hs.getD i [])))) := h
    clear h
    go_enter Try.func15, Try.ntmps15
    go_wp2
    go_loop [5, 6] (fun t i => ∃ k : Nat, k ≤ hs.length ∧ i = .int .i64 k ∧ ∃ T : Int, t = .int .i64 T ∧ 0 ≤ T ∧ T ≤ 1048576) (fun _ i => hs.length - (intOf i).toNat)
    case atStart => exact ⟨0, Nat.zero_le _, rfl, _, rfl, by omega, by omega⟩
    case round =>
      obtain ⟨k, hk, rfl, T, rfl, hT0, hT1⟩ := hrel
      by_cases hlt : k < hs.length
      · obtain ⟨b, o, rfl, hcx⟩ := strView_cell HZ.out hlt
        generalize str (hs.getD k []) = q at hcx
        clear HZ
        by_cases hq1 : q.size ≤ 1048576
        · go_wp2
          · go_ret
            exact ⟨_, rfl, rfl⟩
          · go_round
            case rel => exact ⟨k + 1, by omega, by go_num, _, rfl, by omega, by omega⟩
            case measure => simp [intOf]; omega
        · go_wp2
          go_ret
          exact ⟨_, rfl, rfl⟩
      · by_cases hq2 : nl ≤ 1048576
        · go_wp2
          all_goals
            go_ret
            exact ⟨_, rfl, rfl⟩
        · go_wp2
          go_ret
          exact ⟨_, rfl, rfl⟩
  · go_enter Try.func15, Try.ntmps15
    go_wp2
    go_ret
    exact ⟨_, rfl, rfl⟩

/-! ### zzCopyStrings -/
def strFill (hs : List (List UInt8)) (k : Nat) : Nat → Value := fun j => if j < k then .string (str (hs.getD j [])) else .string ByteArray.empty

theorem strFill_step (hs : List (List UInt8)) (k j : Nat) : (if j = k then Value.string (str (hs.getD k [])) else strFill hs k j) = strFill hs (k + 1) j := by
  unfold strFill
  by_cases h : j = k
  · subst h; simp
  · by_cases h2 : j < k
    · rw [if_neg h, if_pos h2, if_pos (by omega)]
    · rw [if_neg h, if_neg h2, if_neg (by omega)]

set_option maxHeartbeats 400000 in
theorem copyStrings_nil (n c : Nat) (w : World) : Calls Try.prog 16 #[.slice none n c] w fun e w' => e = .returned (.slice none 0 0) ∧ w' = w := by
  have q34 : ∀ (w : World) (a : Option Addr) (n c : Nat), (binOp .eql 34 (.slice a n c) (.slice none 0 0)).run Try.prog w = .ok (.bool a.isNone) w := fun w a n c => Lib.run_eql_slice_nil w _ _ a n c _ _ Try.underlying34
  go_enter Try.func16, Try.ntmps16
  go_wp2
  go_ret
  exact ⟨rfl, rfl⟩

set_option maxHeartbeats 400000 in
theorem copyStrings_some (a : Addr) (c : Nat) (hs : List (List UInt8)) (w : World) (hz : hs.length ≤ 1048576)
    (h : hs = [] ∨ ∃ b o, some a = some ⟨b, o, none⟩ ∧ ∀ i, i < hs.length → w.cell? ⟨b, o + i, none⟩ = some (.string (str (hs.getD i [])))) :
    Calls Try.prog 16 #[.slice (some a) hs.length c] w fun e w' => e = .returned (.slice (some ⟨w.heap.size, 0, none⟩) hs.length hs.length) ∧ w'.rowIs w.heap.size 9 hs.length (strFill hs hs.length) ∧ Below w.heap.size w w' := by
  have q34 : ∀ (w : World) (a : Option Addr) (n c : Nat), (binOp .eql 34 (.slice a n c) (.slice none 0 0)).run Try.prog w = .ok (.bool a.isNone) w := fun w a n c => Lib.run_eql_slice_nil w _ _ a n c _ _ Try.underlying34
  have hmk := run_make_row' (P := Try.prog) 34 9 (.string ByteArray.empty) 16 Try.underlying34 Try.info9 rfl .i64 .i64 hs.length (by omega) (by omega)
  have hm0 := (World.rowIs_made w (.string ByteArray.empty) hs.length 9).congr (g := strFill hs 0) (fun i _ => by simp [strFill])
  have HZ : Hid (hs = [] ∨ ∃ b o, some a = some ⟨b, o, none⟩ ∧ ∀ i, i < hs.length → w.cell? ⟨b, o + i, none⟩ = some (.string (str (hs.getD i [])))) := h
  clear h
  go_enter Try.func16, Try.ntmps16
  go_wp2
  go_loopw [4] (fun i wr => ∃ k : Nat, k ≤ hs.length ∧ i = .int .i64 k ∧ wr.rowIs w.heap.size 9 hs.length (strFill hs k) ∧ Below w.heap.size w wr) (fun i _ => hs.length - (intOf i).toNat)
  case atStart => exact ⟨0, Nat.zero_le _, rfl, hm0, (Below.refl _ _).alloc (Nat.le_refl _) _⟩
  case round =>
    obtain ⟨k, hk, rfl, hrow, hbel⟩ := hrel
    clear hm0
    by_cases hlt : k < hs.length
    · obtain ⟨b, o, ea, hc⟩ := strView_cell HZ.out hlt
      simp only [Option.some.injEq] at ea
      subst ea
      have hcx := cell_kept hbel hc
      have hcy := hrow.cell hlt
      have hfy := hrow.frozen k
      have hrow' := (hrow.set k (.string (str (hs.getD k [])))).congr (fun i _ => strFill_step hs k i)
      have hbel' := hbel.setCell (p := ⟨w.heap.size, k, none⟩) (Nat.le_refl _) (.string (str (hs.getD k [])))
      have HR : Hid ((wr.setCell ⟨w.heap.size, k, none⟩ (.string (str (hs.getD k [])))).rowIs w.heap.size 9 hs.length (strFill hs (k + 1)) ∧ Below w.heap.size w (wr.setCell ⟨w.heap.size, k, none⟩ (.string (str (hs.getD k []))))) := ⟨hrow', hbel'⟩
      clear hrow' hbel' hrow hbel hc HZ
      generalize str (hs.getD k []) = z at *
      obtain ⟨y, hy⟩ : ∃ y, y = strFill hs k k := ⟨_, rfl⟩
      rw [← hy] at hcy
      clear hy
      go_wp2
      go_roundw
      case rel => exact ⟨k + 1, by omega, by go_num, HR.out.1, HR.out.2⟩
      case measure => simp [intOf]; omega
    · go_wp2
      go_ret
      have : k = hs.length := by omega
      subst this
      exact ⟨rfl, hrow, hbel⟩

/-- zzCopyStrings: the same strings in new memory; nil just where it was nil. -/
theorem copyStrings_any {w : World} {a : Option Addr} {c : Nat} {hs : List (List UInt8)} (hv : StrView w (.slice a hs.length c) hs) (hz : hs.length ≤ 1048576) :
    Calls Try.prog 16 #[.slice a hs.length c] w fun e w' => ∃ a' c', e = .returned (.slice a' hs.length c') ∧ w'.ownsRow w.heap.size 9 1 (.slice a' hs.length c') hs.length (strCells hs) ∧ Below w.heap.size w w' ∧ a'.isNone = a.isNone := by
  obtain ⟨a0, c0, e0, h⟩ := hv
  simp only [Value.slice.injEq, true_and] at e0
  obtain ⟨rfl, rfl⟩ := e0
  cases a with
  | none =>
    rcases h with rfl | ⟨b, o, h, _⟩
    · exact (copyStrings_nil _ c w).mono fun e w' ⟨he, hw⟩ => ⟨none, 0, he, World.ownsRow_nil _ _ _ _, by rw [hw]; exact Below.refl _ _, rfl⟩
    · cases h
  | some a =>
    refine (copyStrings_some a c hs w hz h).mono fun e w' ⟨he, hr, hb⟩ => ⟨_, _, he, ?_, hb, rfl⟩
    refine owns_of_rowIs hr (Nat.le_refl _) (by unfold maxLen; omega) (by simp [strCells]) (fun j hj => ?_)
    rw [strFill, if_pos hj]
    simp [strCells, List.getElem?_eq_getElem hj, List.getD]

/-! ### the shims of package files -/
set_option maxHeartbeats 400000 in
theorem newNames_any (r : Option Nat) (a : Option Addr) (n c : Nat) (w : World) : Calls Try.prog 18 #[.map r, .slice a n c] w fun e w' => e = .returned (.pointer (some ⟨w.heap.size, 0, none⟩)) ∧ w' = w.alloc (.cells #[.map r, .slice a n c] 52) := by
  go_enter Try.func18, Try.ntmps18
  go_wp2
  go_ret
  exact ⟨rfl, rfl⟩

set_option maxHeartbeats 400000 in
theorem namesHeld_walk (bn : Nat) (mv : Value) (a : Option Addr) (n c : Nat) (w : World) (hb : w.heap[bn]? = some (.cells #[mv, .slice a n c] 52 (0, 0))) : Calls Try.prog 20 #[.pointer (some ⟨bn, 0, none⟩)] w fun e w' => e = .returned (.slice a n c) ∧ w' = w := by
  obtain ⟨c0, c1, f0, f1⟩ := two_cells hb
  go_enter Try.func20, Try.ntmps20
  go_wp2
  go_ret
  exact ⟨rfl, rfl⟩

theorem Names.held_slice {w : World} {S : Nat → Prop} {bn : Nat} {l : List (List UInt8)} (h : Names w S bn l) : ∃ mv a c, w.heap[bn]? = some (.cells #[mv, .slice a l.length c] 52 (0, 0)) ∧ w.ownsRow 0 9 1 (.slice a l.length c) l.length (strCells l) ∧
    (((mv = .map none) ∧ l = []) ∨ ∃ m D, mv = .map (some m) ∧ w.ownsMap Try.prog 9 (plainElem Try.prog 3) m l.length D ∧ Reads D l) := by
  obtain ⟨mv, sv, hb, _, hrow, _, hm⟩ := h
  obtain ⟨a, c, rfl⟩ : ∃ a c, sv = .slice a l.length c := by
    rcases ownsRow_shape hrow with ⟨rfl, h0, _⟩ | ⟨g, cap, rfl, _⟩
    · exact ⟨none, 0, by rw [h0]⟩
    · exact ⟨_, _, rfl⟩
  refine ⟨mv, a, c, hb, hrow, ?_⟩
  rcases hm with ⟨h1, h2, _⟩ | ⟨m, D, h1, _, h3, h4⟩
  · exact Or.inl ⟨h1, h2⟩
  · exact Or.inr ⟨m, D, h1, h3, h4⟩

/-- ZZNamesHeld. -/
theorem namesHeld_any {w : World} {S : Nat → Prop} {bn : Nat} {l : List (List UInt8)} (h : Names w S bn l) : Calls Try.prog 20 #[.pointer (some ⟨bn, 0, none⟩)] w fun e w' => ∃ a c, e = .returned (.slice a l.length c) ∧ w' = w ∧ w.ownsRow 0 9 1 (.slice a l.length c) l.length (strCells l) := by
  obtain ⟨mv, a, c, hb, hrow, _⟩ := h.held_slice
  exact (namesHeld_walk bn mv a l.length c w hb).mono fun e w' ⟨he, hw⟩ => ⟨a, c, he, hw, hrow⟩

set_option maxHeartbeats 400000 in
theorem namesCount_walk (bn : Nat) (r : Option Nat) (sv : Value) (q : Int) (w : World) (hb : w.heap[bn]? = some (.cells #[.map r, sv] 52 (0, 0))) (hl : ∀ ty, (Builtin.len_ #[37] ty #[.map r]).run Try.prog w = .ok (.int .i64 q) w) :
    Calls Try.prog 21 #[.pointer (some ⟨bn, 0, none⟩)] w fun e w' => e = .returned (.int .i64 q) ∧ w' = w := by
  obtain ⟨c0, c1, f0, f1⟩ := two_cells hb
  go_enter Try.func21, Try.ntmps21
  go_wp2
  go_ret
  exact ⟨rfl, rfl⟩

/-- ZZNamesCount. -/
theorem namesCount_any {w : World} {S : Nat → Prop} {bn : Nat} {l : List (List UInt8)} (h : Names w S bn l) : Calls Try.prog 21 #[.pointer (some ⟨bn, 0, none⟩)] w fun e w' => e = .returned (.int .i64 (l.length : Nat)) ∧ w' = w := by
  obtain ⟨mv, a, c, hb, hrow, hm⟩ := h.held_slice
  rcases hm with ⟨rfl, rfl⟩ | ⟨m, D, rfl, hown, hr⟩
  · exact namesCount_walk bn none _ 0 w hb (fun ty => Maps.len_nil Try.underlying37 ty)
  · exact namesCount_walk bn (some m) _ _ w hb (fun ty => by rw [hown.len Try.underlying37 ty, hr.count])

set_option maxHeartbeats 400000 in
theorem namesLookup_walk (bn : Nat) (r : Option Nat) (sv : Value) (s : ByteArray) (q : Int) (b : Bool) (w : World) (hb : w.heap[bn]? = some (.cells #[.map r, sv] 52 (0, 0))) (hl : (Instr.lookup 37 (.map r) (.string s) true).run Try.prog w = .ok (.tuple #[.int .i64 q, .bool b]) w) :
    Calls Try.prog 22 #[.pointer (some ⟨bn, 0, none⟩), .string s] w fun e w' => e = .returned (.tuple #[.int .i64 q, .bool b]) ∧ w' = w := by
  obtain ⟨c0, c1, f0, f1⟩ := two_cells hb
  go_enter Try.func22, Try.ntmps22
  go_wp2
  go_ret2
  exact ⟨rfl, rfl⟩

theorem Reads.firsts {D : DataW Unit} {l : List (List UInt8)} (h : Reads D l) : Firsts D l := ⟨h.has, h.place⟩

/-- ZZNamesLookup of a name that is held. -/
theorem namesLookup_any {w : World} {S : Nat → Prop} {bn : Nat} {l : List (List UInt8)} {s : List UInt8} (h : Names w S bn l) (hs : s.length ≤ 1048576) (hin : s ∈ l) :
    Calls Try.prog 22 #[.pointer (some ⟨bn, 0, none⟩), .string (str s)] w fun e w' => e = .returned (.tuple #[.int .i64 (l.idxOf s : Nat), .bool true]) ∧ w' = w := by
  obtain ⟨mv, a, c, hb, hrow, hm⟩ := h.held_slice
  rcases hm with ⟨rfl, rfl⟩ | ⟨m, D, rfl, hown, hr⟩
  · simp at hin
  · refine namesLookup_walk bn (some m) _ (str s) _ true w hb ?_
    have := look_firsts hown hr.firsts hs
    rw [if_pos hin, decide_eq_true hin] at this
    exact this
end Go.Proofs.Qxb6601407a
