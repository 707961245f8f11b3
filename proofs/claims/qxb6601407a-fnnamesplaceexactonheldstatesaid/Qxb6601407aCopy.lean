/-
  Seat b6601407a. How a []byte, a [][]byte that came in are told ('ByteView', 'ScriptView'); zzCopyBytes, zzCopyScript.
-/
import Derived.Test.Qxb6601407aMem
import Derived.Deep.OwnRows
namespace Go.Proofs.Qxb6601407a
open Go.RowKit Go.Maps Go.Deep

/-- v is a []byte of the numbers zs, wherever it lies. -/
def ByteView (w : World) (v : Value) (zs : List Int) : Prop :=
  ∃ a c, v = .slice a zs.length c ∧ (zs = [] ∨ ∃ b o, a = some ⟨b, o, none⟩ ∧ ∀ j, j < zs.length → w.cell? ⟨b, o + j, none⟩ = some (.int .u8 (zs.getD j 0)))

/-- v is a [][]byte of the rows Zs, wherever it lies. -/
def ScriptView (w : World) (v : Value) (Zs : List (List Int)) : Prop :=
  ∃ a c, v = .slice a Zs.length c ∧ (Zs = [] ∨ ∃ b o, a = some ⟨b, o, none⟩ ∧ ∀ i, i < Zs.length → ∃ x, w.cell? ⟨b, o + i, none⟩ = some x ∧ ByteView w x (Zs.getD i []))

theorem cell_kept {w w' : World} (h : Below w.heap.size w w') {p : Addr} {v : Value} (hp : w.cell? p = some v) : w'.cell? p = some v := by
  rw [h.cell (World.block_lt_of_cell? w p hp)]; exact hp

theorem ByteView.below {w w' : World} {v : Value} {zs : List Int} (h : ByteView w v zs) (hb : Below w.heap.size w w') : ByteView w' v zs := by
  obtain ⟨a, c, rfl, h⟩ := h
  refine ⟨a, c, rfl, ?_⟩
  rcases h with h | ⟨b, o, rfl, h⟩
  · exact Or.inl h
  · exact Or.inr ⟨b, o, rfl, fun j hj => cell_kept hb (h j hj)⟩

theorem ScriptView.below {w w' : World} {v : Value} {Zs : List (List Int)} (h : ScriptView w v Zs) (hb : Below w.heap.size w w') : ScriptView w' v Zs := by
  obtain ⟨a, c, rfl, h⟩ := h
  refine ⟨a, c, rfl, ?_⟩
  rcases h with h | ⟨b, o, rfl, h⟩
  · exact Or.inl h
  · exact Or.inr ⟨b, o, rfl, fun j hj => by obtain ⟨x, hx, hv⟩ := h j hj; exact ⟨x, cell_kept hb hx, hv.below hb⟩⟩

/-- A row told by its index is owned. -/
theorem owns_of_rowIs {w : World} {base g : Nat} {t : TypeId} {n : Nat} {f : Nat → Value} (h : w.rowIs g t n f) (hb : base ≤ g) (hn : n ≤ maxLen) {xs : List Value} (hx : xs.length = n) (hf : ∀ j, j < n → xs[j]? = some (f j)) :
    w.ownsRow base t 1 (.slice (some ⟨g, 0, none⟩) n n) n xs := by
  obtain ⟨c, hc, hs, hi⟩ := h
  refine ⟨by omega, Or.inr ⟨g, n, c, rfl, hb, hc, Nat.le_refl _, hn, by omega, ?_⟩⟩
  apply List.ext_getElem?
  intro j
  by_cases hj : j < n
  · rw [List.getElem?_take, if_pos (by omega), hf j hj, Array.getElem?_toList, hi j hj]
  · rw [List.getElem?_eq_none (by simp; omega), List.getElem?_eq_none (by omega)]

def copyFill (zs : List Int) (k : Nat) : Nat → Value := fun j => if j < k then .int .u8 (zs.getD j 0) else .int .u8 0

theorem copyFill_step (zs : List Int) (k j : Nat) : (if j = k then Value.int .u8 (zs.getD k 0) else copyFill zs k j) = copyFill zs (k + 1) j := by
  unfold copyFill
  by_cases h : j = k
  · subst h; simp
  · by_cases h2 : j < k
    · rw [if_neg h, if_pos h2, if_pos (by omega)]
    · rw [if_neg h, if_neg h2, if_neg (by omega)]

set_option maxHeartbeats 400000 in
theorem copyBytes_nil (n c : Nat) (w : World) : Calls Try.prog 17 #[.slice none n c] w fun e w' => e = .returned (.slice none 0 0) ∧ w' = w := by
  have q35 : ∀ (w : World) (a : Option Addr) (n c : Nat), (binOp .eql 35 (.slice a n c) (.slice none 0 0)).run Try.prog w = .ok (.bool a.isNone) w := fun w a n c => Lib.run_eql_slice_nil w _ _ a n c _ _ Try.underlying35
  go_enter Try.func17, Try.ntmps17
  go_wp2
  go_ret
  exact ⟨rfl, rfl⟩

set_option maxHeartbeats 400000 in
theorem copyBytes_some (a : Addr) (c : Nat) (zs : List Int) (w : World) (hz : zs.length ≤ 1048576)
    (h : zs = [] ∨ ∃ b o, a = ⟨b, o, none⟩ ∧ ∀ j, j < zs.length → w.cell? ⟨b, o + j, none⟩ = some (.int .u8 (zs.getD j 0))) :
    Calls Try.prog 17 #[.slice (some a) zs.length c] w fun e w' => e = .returned (.slice (some ⟨w.heap.size, 0, none⟩) zs.length zs.length) ∧ w'.rowIs w.heap.size 5 zs.length (copyFill zs zs.length) ∧ Below w.heap.size w w' := by
  have q35 : ∀ (w : World) (a : Option Addr) (n c : Nat), (binOp .eql 35 (.slice a n c) (.slice none 0 0)).run Try.prog w = .ok (.bool a.isNone) w := fun w a n c => Lib.run_eql_slice_nil w _ _ a n c _ _ Try.underlying35
  have hmk := run_make_row' (P := Try.prog) 35 5 (.int .u8 0) 1 Try.underlying35 Try.info5 rfl .i64 .i64 zs.length (by omega) (by omega)
  have hm0 := World.rowIs_made w (.int .u8 0) zs.length 5
  have HZ : Hid (zs = [] ∨ ∃ b o, a = ⟨b, o, none⟩ ∧ ∀ j, j < zs.length → w.cell? ⟨b, o + j, none⟩ = some (.int .u8 (zs.getD j 0))) := h
  clear h
  go_enter Try.func17, Try.ntmps17
  go_wp2
  go_loopw [4] (fun i wr => ∃ k : Nat, k ≤ zs.length ∧ i = .int .i64 k ∧ wr.rowIs w.heap.size 5 zs.length (copyFill zs k) ∧ Below w.heap.size w wr) (fun i _ => zs.length - (intOf i).toNat)
  case atStart => exact ⟨0, Nat.zero_le _, rfl, hm0.congr (fun i _ => by simp [copyFill]), (Below.refl _ _).alloc (Nat.le_refl _) _⟩
  case round =>
    obtain ⟨k, hk, rfl, hrow, hbel⟩ := hrel
    clear hm0
    by_cases hlt : k < zs.length
    · rcases HZ.out with h0 | ⟨b, o, rfl, hc⟩
      · subst h0; simp at hlt
      have hcx := cell_kept hbel (hc k hlt)
      have hcy := hrow.cell hlt
      have hfy := hrow.frozen k
      have hrow' := (hrow.set k (.int .u8 (zs.getD k 0))).congr (fun i _ => copyFill_step zs k i)
      have hbel' := hbel.setCell (p := ⟨w.heap.size, k, none⟩) (Nat.le_refl _) (.int .u8 (zs.getD k 0))
      have HR : Hid ((wr.setCell ⟨w.heap.size, k, none⟩ (.int .u8 (zs.getD k 0))).rowIs w.heap.size 5 zs.length (copyFill zs (k + 1)) ∧ Below w.heap.size w (wr.setCell ⟨w.heap.size, k, none⟩ (.int .u8 (zs.getD k 0)))) := ⟨hrow', hbel'⟩
      clear hrow' hbel' hrow hbel hc HZ
      generalize zs.getD k 0 = z at *
      obtain ⟨y, hy⟩ : ∃ y, y = copyFill zs k k := ⟨_, rfl⟩
      rw [← hy] at hcy
      clear hy
      go_wp2
      go_roundw
      case rel => exact ⟨k + 1, by omega, by go_num, HR.out.1, HR.out.2⟩
      case measure => simp [intOf]; omega
    · go_wp2
      go_ret
      have : k = zs.length := by omega
      subst this
      exact ⟨rfl, hrow, hbel⟩

/-- zzCopyBytes: the same bytes in new memory. -/
theorem copyBytes_any {w : World} {v : Value} {zs : List Int} (hv : ByteView w v zs) (hz : zs.length ≤ 1048576) :
    Calls Try.prog 17 #[v] w fun e w' => ∃ v', e = .returned v' ∧ w'.ownsRow w.heap.size 5 1 v' zs.length (zs.map (Value.int .u8)) ∧ Below w.heap.size w w' := by
  obtain ⟨a, c, rfl, h⟩ := hv
  cases a with
  | none =>
    rcases h with rfl | ⟨b, o, h, _⟩
    · exact (copyBytes_nil _ c w).mono fun e w' ⟨he, hw⟩ => ⟨_, he, World.ownsRow_nil _ _ _ _, by rw [hw]; exact Below.refl _ _⟩
    · cases h
  | some a =>
    refine (copyBytes_some a c zs w hz (by
      rcases h with h | ⟨b, o, h, hc⟩
      · exact Or.inl h
      · simp only [Option.some.injEq] at h
        exact Or.inr ⟨b, o, h, hc⟩)).mono fun e w' ⟨he, hr, hb⟩ => ⟨_, he, ?_, hb⟩
    refine owns_of_rowIs hr (Nat.le_refl _) (by unfold maxLen; omega) (by simp) (fun j hj => ?_)
    rw [copyFill, if_pos hj]
    simp [List.getElem?_eq_getElem hj, List.getD]

/-- v is a [][]byte of the call's own making: its row and each row that it leads to lie in blocks from B on. -/
def OwnScript (w : World) (B : Nat) (v : Value) (Zs : List (List Int)) : Prop :=
  ∃ V : Nat → Value, w.ownsRow B 35 1 v Zs.length ((List.range Zs.length).map V) ∧ ∀ j, j < Zs.length → w.ownsRow B 5 1 (V j) (Zs.getD j []).length ((Zs.getD j []).map (Value.int .u8))

/-- zzCopyScript behind k rounds. -/
def CopyAt (w wr : World) (Zs : List (List Int)) (k : Nat) : Prop :=
  ∃ V : Nat → Value, wr.rowIs w.heap.size 35 Zs.length (fun j => if j < k then V j else .slice none 0 0) ∧ (∀ j, j < k → wr.ownsRow w.heap.size 5 1 (V j) (Zs.getD j []).length ((Zs.getD j []).map (Value.int .u8))) ∧ Below w.heap.size w wr

theorem copyAt_start (w : World) (Zs : List (List Int)) : CopyAt w (w.alloc (.cells (madeCells #[.slice none 0 0] Zs.length) 35)) Zs 0 :=
  ⟨fun _ => .slice none 0 0, (World.rowIs_made w (.slice none 0 0) Zs.length 35).congr (fun i _ => by simp), fun j hj => by omega, (Below.refl _ _).alloc (Nat.le_refl _) _⟩

theorem copyAt_step {w wr w1 : World} {Zs : List (List Int)} {k : Nat} {v' : Value} (h : CopyAt w wr Zs k) (hb : Below wr.heap.size wr w1)
    (hv : w1.ownsRow wr.heap.size 5 1 v' (Zs.getD k []).length ((Zs.getD k []).map (Value.int .u8))) : CopyAt w (w1.setCell ⟨w.heap.size, k, none⟩ v') Zs (k + 1) ∧
      (k < Zs.length → w1.cell? ⟨w.heap.size, k, none⟩ = some (.slice none 0 0)) ∧ w1.frozen? ⟨w.heap.size, k, none⟩ = false := by
  obtain ⟨V, hrow, hV, hbel⟩ := h
  have hsz := hbel.size
  have hrow1 : w1.rowIs w.heap.size 35 Zs.length (fun j => if j < k then V j else .slice none 0 0) := hrow.of_block (hb.block _ hrow.lt)
  refine ⟨⟨fun j => if j = k then v' else V j, ?_, ?_, ?_⟩, fun hk => by simpa using hrow1.cell hk, hrow1.frozen k⟩
  · refine (hrow1.set k v').congr (fun i _ => ?_)
    by_cases e : i = k
    · subst e; simp
    · by_cases e2 : i < k
      · simp [e, e2, show i < k + 1 by omega]
      · simp [e, e2, show ¬ i < k + 1 by omega]
  · intro j hj
    have hset : ∀ (base n : Nat) (v : Value) (xs : List Value), w1.ownsRow base 5 1 v n xs → (w1.setCell ⟨w.heap.size, k, none⟩ v').ownsRow base 5 1 v n xs := by
      intro base n v xs ho
      obtain ⟨c, hc, _⟩ := hrow1
      exact ownsRow_setCell_other ho (row_block_ne ho hc (by decide)) _
    by_cases e : j = k
    · subst e
      simp only [if_true]
      have h1 := hset _ _ _ _ hv
      refine ⟨h1.1, ?_⟩
      rcases h1.2 with h2 | ⟨g, cap, cur, a1, a2, a3⟩
      · exact Or.inl h2
      · exact Or.inr ⟨g, cap, cur, a1, by omega, a3⟩
    · simp only [if_neg e]
      exact hset _ _ _ _ ((Off.of_below (S := fun _ => False) hb).ownsRow (hV j (by omega)) (fun _ _ h => h))
  · exact ((hbel.trans (hb.mono hsz)).setCell (p := ⟨w.heap.size, k, none⟩) (Nat.le_refl _) v')

theorem copyAt_end {w wr : World} {Zs : List (List Int)} (h : CopyAt w wr Zs Zs.length) (hn : Zs.length ≤ 1048576) : OwnScript wr w.heap.size (.slice (some ⟨w.heap.size, 0, none⟩) Zs.length Zs.length) Zs := by
  obtain ⟨V, hrow, hV, _⟩ := h
  refine ⟨V, owns_of_rowIs hrow (Nat.le_refl _) (by unfold maxLen; omega) (by simp) (fun j hj => ?_), hV⟩
  simp [hj]

theorem own_slice5 {w : World} {B : Nat} {v : Value} {n : Nat} {xs : List Value} (h : w.ownsRow B 5 1 v n xs) : ∃ a c, v = .slice a n c := by
  rcases ownsRow_shape h with ⟨hv, h0, _⟩ | ⟨g, cap, hv, _⟩
  · exact ⟨none, 0, by rw [hv, h0]⟩
  · exact ⟨_, _, hv⟩

set_option maxHeartbeats 400000 in
theorem copyScript_nil (n c : Nat) (w : World) : Calls Try.prog 25 #[.slice none n c] w fun e w' => e = .returned (.slice none 0 0) ∧ w' = w := by
  have q48 : ∀ (w : World) (a : Option Addr) (n c : Nat), (binOp .eql 48 (.slice a n c) (.slice none 0 0)).run Try.prog w = .ok (.bool a.isNone) w := fun w a n c => Lib.run_eql_slice_nil w _ _ a n c _ _ Try.underlying48
  go_enter Try.func25, Try.ntmps25
  go_wp2
  go_ret
  exact ⟨rfl, rfl⟩

set_option maxHeartbeats 400000 in
theorem copyScript_some (a : Addr) (c : Nat) (Zs : List (List Int)) (w : World) (hz : Zs.length ≤ 1048576) (hZ : ∀ i, i < Zs.length → (Zs.getD i []).length ≤ 1048576)
    (h : Zs = [] ∨ ∃ b o, a = ⟨b, o, none⟩ ∧ ∀ i, i < Zs.length → ∃ x, w.cell? ⟨b, o + i, none⟩ = some x ∧ ByteView w x (Zs.getD i [])) :
    Calls Try.prog 25 #[.slice (some a) Zs.length c] w fun e w' => e = .returned (.slice (some ⟨w.heap.size, 0, none⟩) Zs.length Zs.length) ∧ CopyAt w w' Zs Zs.length := by
  have q48 : ∀ (w : World) (a : Option Addr) (n c : Nat), (binOp .eql 48 (.slice a n c) (.slice none 0 0)).run Try.prog w = .ok (.bool a.isNone) w := fun w a n c => Lib.run_eql_slice_nil w _ _ a n c _ _ Try.underlying48
  have hmk := run_make_row' (P := Try.prog) 48 35 (.slice none 0 0) 24 Try.underlying48 Try.info35 rfl .i64 .i64 Zs.length (by omega) (by omega)
  have hm0 := copyAt_start w Zs
  have HZ : Hid (Zs = [] ∨ ∃ b o, a = ⟨b, o, none⟩ ∧ ∀ i, i < Zs.length → ∃ x, w.cell? ⟨b, o + i, none⟩ = some x ∧ ByteView w x (Zs.getD i [])) := h
  clear h
  go_enter Try.func25, Try.ntmps25
  go_wp2
  go_loopw [4] (fun i wr => ∃ k : Nat, k ≤ Zs.length ∧ i = .int .i64 k ∧ CopyAt w wr Zs k) (fun i _ => Zs.length - (intOf i).toNat)
  case atStart => exact ⟨0, Nat.zero_le _, rfl, hm0⟩
  case round =>
    obtain ⟨k, hk, rfl, hat⟩ := hrel
    clear hm0
    by_cases hlt : k < Zs.length
    · rcases HZ.out with h0 | ⟨b, o, rfl, hc⟩
      · subst h0; simp at hlt
      have hbel : Below w.heap.size w wr := by obtain ⟨_, _, _, h⟩ := hat; exact h
      obtain ⟨x, hx, hv⟩ := hc k hlt
      have hcx := cell_kept hbel hx
      have hv' := hv.below hbel
      have hzk := hZ k hlt
      have hstep : ∀ (w1 : World) (v' : Value), Below wr.heap.size wr w1 → w1.ownsRow wr.heap.size 5 1 v' (Zs.getD k []).length ((Zs.getD k []).map (Value.int .u8)) → CopyAt w (w1.setCell ⟨w.heap.size, k, none⟩ v') Zs (k + 1) ∧
          (k < Zs.length → w1.cell? ⟨w.heap.size, k, none⟩ = some (.slice none 0 0)) ∧ w1.frozen? ⟨w.heap.size, k, none⟩ = false := fun w1 v' h1 h2 => copyAt_step hat h1 h2
      generalize Zs.getD k [] = zk at *
      have hcall := copyBytes_any hv' hzk
      obtain ⟨xa, xc, ex, _⟩ := hv'
      rw [ex] at hcx hcall
      have HS : Hid (∀ (w1 : World) (v' : Value), Below wr.heap.size wr w1 → w1.ownsRow wr.heap.size 5 1 v' zk.length (zk.map (Value.int .u8)) → CopyAt w (w1.setCell ⟨w.heap.size, k, none⟩ v') Zs (k + 1) ∧
          (k < Zs.length → w1.cell? ⟨w.heap.size, k, none⟩ = some (.slice none 0 0)) ∧ w1.frozen? ⟨w.heap.size, k, none⟩ = false) := hstep
      clear hx ex hc hbel HZ hZ hstep hv hat
      go_wp2_with fail
      refine hcall.mono ?_
      rintro e w1 ⟨v', rfl, hown, hb1⟩
      obtain ⟨hat', hc1, hf1⟩ := HS.out w1 v' hb1 hown
      have hc1' := hc1 hlt
      obtain ⟨va, vc, ev⟩ := own_slice5 hown
      rw [ev] at hat' ⊢
      have HR : Hid (CopyAt w (w1.setCell ⟨w.heap.size, k, none⟩ (.slice va zk.length vc)) Zs (k + 1)) := hat'
      clear hat' hc1 hown hb1 hcall ev HS
      go_wp2
      go_roundw
      case rel => exact ⟨k + 1, by omega, by go_num, HR.out⟩
      case measure => simp [intOf]; omega
    · go_wp2
      go_ret
      have : k = Zs.length := by omega
      subst this
      exact ⟨rfl, hat⟩

/-- zzCopyScript: the same rows in new memory. -/
theorem copyScript_any {w : World} {v : Value} {Zs : List (List Int)} (hv : ScriptView w v Zs) (hz : Zs.length ≤ 1048576) (hZ : ∀ i, i < Zs.length → (Zs.getD i []).length ≤ 1048576) :
    Calls Try.prog 25 #[v] w fun e w' => ∃ v', e = .returned v' ∧ OwnScript w' w.heap.size v' Zs ∧ Below w.heap.size w w' := by
  obtain ⟨a, c, rfl, h⟩ := hv
  cases a with
  | none =>
    rcases h with rfl | ⟨b, o, h, _⟩
    · exact (copyScript_nil _ c w).mono fun e w' ⟨he, hw⟩ => ⟨_, he, ⟨fun _ => .slice none 0 0, World.ownsRow_nil _ _ _ _, fun j hj => by simp at hj⟩, by rw [hw]; exact Below.refl _ _⟩
    · cases h
  | some a =>
    refine (copyScript_some a c Zs w hz hZ (by
      rcases h with h | ⟨b, o, h, hc⟩
      · exact Or.inl h
      · simp only [Option.some.injEq] at h
        exact Or.inr ⟨b, o, h, hc⟩)).mono fun e w' ⟨he, hr⟩ => ⟨_, he, copyAt_end hr hz, by obtain ⟨_, _, _, h⟩ := hr; exact h⟩
end Go.Proofs.Qxb6601407a
