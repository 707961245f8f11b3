/-
  Seat b6601407a. (*names).place and files.ZZNamesPlace.
-/
import Derived.Test.Qxb6601407aMem
import Derived.RegionTactic
import Derived.ChangeAlike
import Derived.Deep.QuietTactic
import Derived.BigQuiet
namespace Go.Proofs.Qxb6601407a
open Go.RowKit Go.Maps

set_option maxHeartbeats 400000 in
/-- The name is held: nothing is written. -/
theorem place_hit (bn m : Nat) (a : Option Addr) (n c : Nat) (s : ByteArray) (g cap : Nat) (i : Nat) (l : Nat) (w : World)
    (c0 : w.cell? ⟨bn, 0, none⟩ = some (.map (some m))) (c1 : w.cell? ⟨bn, 1, none⟩ = some (.slice (some ⟨g, 0, none⟩) l cap))
    (hconv : (convert 35 9 (.slice a n c)).run Try.prog w.drew = .ok (.string s) w.drew)
    (hlook : (Instr.lookup 37 (.map (some m)) (.string s) true).run Try.prog w.drew = .ok (.tuple #[.int .i64 i, .bool true]) w.drew)
    (hil : i < l) (hci : w.cell? ⟨g, i, none⟩ = some (.string s)) :
    Calls Try.prog 37 #[.pointer (some ⟨bn, 0, none⟩), .slice a n c] w fun e w' => e = .returned (.tuple #[.int .i64 i, .string s]) ∧ w'.heap = w.heap ∧ w'.os = w.os ∧ w'.output = w.output ∧ w'.tape = w.tape := by
  go_enter Try.func37, Try.ntmps37
  go_wp2
  go_region
  all_goals go_wp2
  all_goals go_quiet (fail)
  all_goals go_wp2
  all_goals go_ret2
  all_goals exact ⟨rfl, rfl, rfl, rfl, rfl⟩

/-- What 'append' and the store of the field leave. -/
def Grew (bn : Nat) (sv : Value) (l : Nat) (xs : List Value) (s : ByteArray) (w1 w' : World) : Prop :=
  ∃ v' w2, w2.ownsRow 0 9 1 v' (l + 1) (xs ++ [.string s]) ∧ (w1.alloc (.cells #[.string s] 9)).grownBy w2 sv.ownBlock ∧ (v'.ownBlock = sv.ownBlock ∨ v'.ownBlock = some (w1.heap.size + 1)) ∧
    w' = w2.setCell ⟨bn, 1, none⟩ v'

theorem own_slice {w : World} {v : Value} {l : Nat} {xs : List Value} (h : w.ownsRow 0 9 1 v (l + 1) xs) : ∃ g cap, v = .slice (some ⟨g, 0, none⟩) (l + 1) cap := by
  rcases ownsRow_shape h with ⟨_, h0, _⟩ | ⟨g, cap, hv, _⟩
  · omega
  · exact ⟨g, cap, hv⟩

theorem two_cells {w : World} {b : Nat} {x y : Value} (h : w.heap[b]? = some (.cells #[x, y] 52 (0, 0))) : w.cell? ⟨b, 0, none⟩ = some x ∧ w.cell? ⟨b, 1, none⟩ = some y ∧ w.frozen? ⟨b, 0, none⟩ = false ∧ w.frozen? ⟨b, 1, none⟩ = false := by
  simp [World.cell?, World.frozen?, h]

set_option maxHeartbeats 400000 in
/-- The name is not held, the map is there. -/
theorem place_old (bn m : Nat) (a : Option Addr) (n c : Nat) (s : ByteArray) (sa : Option Addr) (cap l : Nat) (w w1 : World) (xs : List Value)
    (c0 : w.cell? ⟨bn, 0, none⟩ = some (.map (some m))) (c1 : w.cell? ⟨bn, 1, none⟩ = some (.slice sa l cap))
    (hconv : (convert 35 9 (.slice a n c)).run Try.prog w.drew = .ok (.string s) w.drew)
    (hlook : (Instr.lookup 37 (.map (some m)) (.string s) true).run Try.prog w.drew = .ok (.tuple #[.int .i64 0, .bool false]) w.drew)
    (hupd : (Instr.mapUpdate 37 (.map (some m)) (.string s) (.int .i64 l)).run Try.prog w.drew.drew = .ok () w1)
    (hl : l ≤ 1048576) (hb : w1.heap[bn]? = some (.cells #[.map (some m), .slice sa l cap] 52 (0, 0))) (hrow : w1.ownsRow 0 9 1 (.slice sa l cap) l xs) :
    Calls Try.prog 37 #[.pointer (some ⟨bn, 0, none⟩), .slice a n c] w fun e w' => e = .returned (.tuple #[.int .i64 l, .string s]) ∧ Grew bn (.slice sa l cap) l xs s w1 w' := by
  have q37 : ∀ (w : World) (r : Option Nat), (binOp .eql 37 (.map r) (.map none)).run Try.prog w = .ok (.bool r.isNone) w := fun w r => run_eql_map_nil w _ _ _ r Try.underlying37
  obtain ⟨i0, hi, hz0, hz1, hz2⟩ := info_parts Try.info9
  have d1 := (two_cells hb).2.1
  have hne : (Value.slice sa l cap).ownBlock ≠ some bn := row_block_ne hrow hb (by decide)
  go_enter Try.func37, Try.ntmps37
  go_wp2
  go_region
  all_goals go_wp2
  all_goals go_region
  go_wp2_with (at_builtin; refine wpList_append_own_at _ rfl _ _ 34 rfl 0 9 i0 (.string ByteArray.empty) 1 16 Try.underlying34 hi hz0 hz1 hz2 rfl (by decide) _ _ _ rfl (hrow.alloc _) ⟨w1.heap.size, 0, none⟩ 1 1 [.string s] rfl rfl (cell_one_new _ _ _) (by intro u hu; simp at hu; subst hu; rfl) (by unfold maxLen; omega) (by omega) (Nat.zero_le _) ?_)
  intro v' w2 hown' hgrow' hnil' hloc'
  have hb2 : w2.heap[bn]? = some (.cells #[.map (some m), .slice sa l cap] 52 (0, 0)) := by
    rw [hgrow'.block bn (by have := lt_of_block hb; simp; omega) (fun e => hne e.symm), Below.heap_alloc _ _ _ (lt_of_block hb)]; exact hb
  obtain ⟨g', cap', hv'⟩ := own_slice hown'
  rw [hv'] at hown' hloc' ⊢
  have HG : Hid (Grew bn (.slice sa l cap) l xs s w1 (w2.setCell ⟨bn, 1, none⟩ (.slice (some ⟨g', 0, none⟩) (l + 1) cap'))) := ⟨_, w2, hown', hgrow', hloc', rfl⟩
  obtain ⟨e0, e1, f0, f1⟩ := two_cells hb2
  clear hnil' hloc' hgrow' hown' hb2 hv' hb hrow hne
  go_wp2
  go_ret2
  exact ⟨by simp, HG.out⟩

set_option maxHeartbeats 400000 in
/-- The map is nil: it is made first. -/
theorem place_new (bn : Nat) (a : Option Addr) (n c : Nat) (s : ByteArray) (w w1 : World)
    (hb0 : w.heap[bn]? = some (.cells #[.map none, .slice none 0 0] 52 (0, 0)))
    (hconv : (convert 35 9 (.slice a n c)).run Try.prog w.drew = .ok (.string s) w.drew)
    (hlook : (Instr.lookup 37 (.map none) (.string s) true).run Try.prog w.drew = .ok (.tuple #[.int .i64 0, .bool false]) w.drew)
    (hconv1 : (convert 35 9 (.slice a n c)).run Try.prog ((w.setCell ⟨bn, 0, none⟩ (.map (some w.heap.size))).alloc (.map #[] 0)).drew = .ok (.string s) ((w.setCell ⟨bn, 0, none⟩ (.map (some w.heap.size))).alloc (.map #[] 0)).drew)
    (hupd : (Instr.mapUpdate 37 (.map (some w.heap.size)) (.string s) (.int .i64 0)).run Try.prog ((w.setCell ⟨bn, 0, none⟩ (.map (some w.heap.size))).alloc (.map #[] 0)).drew.drew = .ok () w1)
    (hb : w1.heap[bn]? = some (.cells #[.map (some w.heap.size), .slice none 0 0] 52 (0, 0))) :
    Calls Try.prog 37 #[.pointer (some ⟨bn, 0, none⟩), .slice a n c] w fun e w' => e = .returned (.tuple #[.int .i64 0, .string s]) ∧ Grew bn (.slice none 0 0) 0 [] s w1 w' := by
  have q37 : ∀ (w : World) (r : Option Nat), (binOp .eql 37 (.map r) (.map none)).run Try.prog w = .ok (.bool r.isNone) w := fun w r => run_eql_map_nil w _ _ _ r Try.underlying37
  have hmm := @run_makeMap Try.prog
  obtain ⟨i0, hi, hz0, hz1, hz2⟩ := info_parts Try.info9
  have hrow : w1.ownsRow 0 9 1 (.slice none 0 0) 0 [] := World.ownsRow_nil _ _ _ _
  have d1 := (two_cells hb).2.1
  have hlt := lt_of_block hb0
  obtain ⟨k0, k1, m0, m1⟩ := two_cells hb0
  go_enter Try.func37, Try.ntmps37
  go_wp2
  go_region
  all_goals go_wp2
  all_goals go_region
  go_wp2_with (at_builtin; refine wpList_append_own_at _ rfl _ _ 34 rfl 0 9 i0 (.string ByteArray.empty) 1 16 Try.underlying34 hi hz0 hz1 hz2 rfl (by decide) _ _ _ rfl (hrow.alloc _) ⟨w1.heap.size, 0, none⟩ 1 1 [.string s] rfl rfl (cell_one_new _ _ _) (by intro u hu; simp at hu; subst hu; rfl) (by unfold maxLen; omega) (by omega) (Nat.zero_le _) ?_)
  intro v' w2 hown' hgrow' hnil' hloc'
  have hb2 : w2.heap[bn]? = some (.cells #[.map (some w.heap.size), .slice none 0 0] 52 (0, 0)) := by
    rw [hgrow'.block bn (by have := lt_of_block hb; simp; omega) (fun e => by simp [Value.ownBlock] at e), Below.heap_alloc _ _ _ (lt_of_block hb)]; exact hb
  obtain ⟨g', cap', hv'⟩ := own_slice hown'
  rw [hv'] at hown' hloc' ⊢
  have HG : Hid (Grew bn (.slice none 0 0) 0 [] s w1 (w2.setCell ⟨bn, 1, none⟩ (.slice (some ⟨g', 0, none⟩) (0 + 1) cap'))) := ⟨_, w2, hown', hgrow', hloc', rfl⟩
  obtain ⟨e0, e1, f0, f1⟩ := two_cells hb2
  clear hnil' hloc' hgrow' hown' hb2 hv' hb hrow
  go_wp2
  go_ret2
  exact ⟨by simp, HG.out⟩
end Go.Proofs.Qxb6601407a
