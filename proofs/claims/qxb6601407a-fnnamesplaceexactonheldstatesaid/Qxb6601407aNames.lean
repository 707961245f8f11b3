/-
  Seat b6601407a. The contracts of (*names).place and files.ZZNamesPlace over 'Names'.
-/
import Derived.Test.Qxb6601407aPlace
namespace Go.Proofs.Qxb6601407a
open Go.RowKit Go.Maps

theorem two_setCell0 {w : World} {b : Nat} {x y u : Value} {t : TypeId} (h : w.heap[b]? = some (.cells #[x, y] t (0, 0))) : (w.setCell ⟨b, 0, none⟩ u).heap[b]? = some (.cells #[u, y] t (0, 0)) := by
  have hlt := lt_of_block h
  have h' : w.heap[b] = .cells #[x, y] t (0, 0) := by simpa [Array.getElem?_eq_getElem hlt] using h
  show (w.heap.modify b _)[b]? = _
  rw [Array.getElem?_eq_getElem (by simpa using hlt), Array.getElem_modify_self, h']
  rfl
theorem two_setCell1 {w : World} {b : Nat} {x y u : Value} {t : TypeId} (h : w.heap[b]? = some (.cells #[x, y] t (0, 0))) : (w.setCell ⟨b, 1, none⟩ u).heap[b]? = some (.cells #[x, u] t (0, 0)) := by
  have hlt := lt_of_block h
  have h' : w.heap[b] = .cells #[x, y] t (0, 0) := by simpa [Array.getElem?_eq_getElem hlt] using h
  show (w.heap.modify b _)[b]? = _
  rw [Array.getElem?_eq_getElem (by simpa using hlt), Array.getElem_modify_self, h']
  rfl

/-- The blocks of a 'names' behind a call: those that it had, and new ones. -/
abbrev Wider (S : Nat → Prop) (w : World) : Nat → Prop := fun j => S j ∨ w.heap.size ≤ j

theorem names_grew {w w1 w' : World} {S : Nat → Prop} {bn m : Nat} {l : List (List UInt8)} {n : List UInt8} {sv : Value} {D : DataW Unit}
    (hoff : Off S w w1) (hS : S bn) (hm : Wider S w m) (hsv : ∀ g, sv.ownBlock = some g → S g) (hb : w1.heap[bn]? = some (.cells #[.map (some m), sv] 52 (0, 0)))
    (hown : w1.ownsMap Try.prog 9 (plainElem Try.prog 3) m (l.length + 1) D) (hr : Reads D (l ++ [n])) (hrow : w1.ownsRow 0 9 1 sv l.length (l.map fun s => Value.string (str s)))
    (hG : Grew bn sv l.length (l.map fun s => Value.string (str s)) (str n) w1 w') : Names w' (Wider S w) bn (l ++ [n]) ∧ Off S w w' := by
  obtain ⟨v', w2, hrow2, hgr, hloc, rfl⟩ := hG
  have hne : sv.ownBlock ≠ some bn := row_block_ne hrow hb (by decide)
  have hb2 : w2.heap[bn]? = some (.cells #[.map (some m), sv] 52 (0, 0)) := by
    rw [hgr.block bn (by have := lt_of_block hb; simp; omega) (fun e => hne e.symm), Below.heap_alloc _ _ _ (lt_of_block hb)]; exact hb
  have hown2 : w2.ownsMap Try.prog 9 (plainElem Try.prog 3) m (l.length + 1) D := (hown.alloc _).kept hgr (fun e => row_map_ne hrow hown e.symm)
  have hv2 : v'.ownBlock ≠ some bn := row_block_ne hrow2 hb2 (by decide)
  refine ⟨⟨.map (some m), v', two_setCell1 hb2, Or.inl hS, ?_, ?_, Or.inr ⟨m, D, rfl, hm, ?_, hr⟩⟩, ?_⟩
  · have := ownsRow_setCell_other hrow2 (a := ⟨bn, 1, none⟩) hv2 v'
    simpa using this
  · intro g hg
    rcases hloc with h | h
    · exact Or.inl (hsv g (h ▸ hg))
    · rw [h] at hg
      have := hoff.size
      simp only [Option.some.injEq] at hg
      exact Or.inr (by omega)
  · have := hown2.setCell (a := ⟨bn, 1, none⟩) (block_map_ne hown2 hb2) v'
    simpa using this
  · exact ((hoff.alloc _).grown hgr (fun k _ e => hsv k e)).setCell (fun _ => hS) _

theorem Off.same {S : Nat → Prop} {w w' : World} (hh : w'.heap = w.heap) (ho : w'.os = w.os) (hu : w'.output = w.output) (ht : w'.tape = w.tape) : Off S w w' :=
  ⟨ho, ht, hu, by rw [hh]; exact Nat.le_refl _, fun k _ _ => by rw [hh]⟩

theorem Names.same {S T : Nat → Prop} {w w' : World} {bn : Nat} {l : List (List UInt8)} (h : Names w S bn l) (ho : Off T w w') (hh : w'.heap = w.heap) : Names w' S bn l :=
  h.off (T := fun _ => False) ⟨ho.os, ho.tape, ho.output, ho.size, fun k _ _ => by rw [hh]⟩ (fun _ _ _ h => h)

theorem getElem_idxOf {l : List (List UInt8)} {n : List UInt8} (h : n ∈ l) : (l.map fun s => Value.string (str s))[l.idxOf n]? = some (.string (str n)) := by
  have hlt := List.idxOf_lt_length_of_mem h
  simp [List.getElem?_map, List.getElem?_eq_getElem hlt]

/-- (*names).place: the place and the string of the name; the names held behind it. -/
theorem place_any {w : World} {S : Nat → Prop} {bn : Nat} {l : List (List UInt8)} {v : Value} {zs : List Int} (hns : Names w S bn l) (hname : w.ownsRow 0 5 1 v zs.length (zs.map (Value.int .u8))) (hl : l.length ≤ 1048576) (hz : zs.length ≤ 1048576) :
    Calls Try.prog 37 #[.pointer (some ⟨bn, 0, none⟩), v] w fun e w' => e = .returned (.tuple #[.int .i64 (l.idxOf (bytesOf zs) : Nat), .string (str (bytesOf zs))]) ∧
      Names w' (Wider S w) bn (addName l (bytesOf zs)) ∧ Off S w w' := by
  obtain ⟨n, hn⟩ : ∃ n, n = bytesOf zs := ⟨_, rfl⟩
  have hnl : n.length ≤ 1048576 := by rw [hn, bytesOf_len]; exact hz
  have hkey : keyOf Try.prog 9 (.string (str n)) = some (.string n) := by
    have := WideMaps.keyOf_string_mk (P := Try.prog) (k := 9) Try.underlying9 (s := str n) (by rw [str_size]; unfold maxLen; omega)
    rw [str_list] at this; exact this
  have hconv := conv_own (w := w.drew) hname
  obtain ⟨va, vn, vc, rfl⟩ : ∃ a n c, v = .slice a n c := by
    rcases ownsRow_shape hname with ⟨rfl, _⟩ | ⟨g, cap, rfl, _⟩
    · exact ⟨_, _, _, rfl⟩
    · exact ⟨_, _, _, rfl⟩
  have hns' := hns
  obtain ⟨mv, sv, hb, hS, hrow, hrS, hm⟩ := hns
  obtain ⟨sa, scap, rfl⟩ : ∃ a c, sv = .slice a l.length c := by
    rcases ownsRow_shape hrow with ⟨rfl, h0, _⟩ | ⟨g, cap, rfl, _⟩
    · exact ⟨none, 0, by rw [h0]⟩
    · exact ⟨_, _, rfl⟩
  obtain ⟨c0, c1, f0, f1⟩ := two_cells hb
  rw [← hn] at hconv ⊢
  rcases hm with ⟨rfl, rfl, hsv⟩ | ⟨m, D, rfl, hmS, hown, hr⟩
  · -- the map is nil
    simp only [Value.slice.injEq] at hsv
    obtain ⟨rfl, _, rfl⟩ := hsv
    have hlt := lt_of_block hb
    have hlook := Maps.look_nil (w := w.drew) true law9 Try.underlying37 (zero3 _) hkey
    have hbs : ∀ W : World, W.heap = ((w.setCell ⟨bn, 0, none⟩ (.map (some w.heap.size))).alloc (.map #[] 0)).heap → W.ownsRow 0 5 1 (.slice va vn vc) zs.length (zs.map (Value.int .u8)) := by
      intro W hW
      have h1 : ((w.setCell ⟨bn, 0, none⟩ (.map (some w.heap.size))).alloc (.map #[] 0)).ownsRow 0 5 1 (.slice va vn vc) zs.length (zs.map (Value.int .u8)) :=
        (ownsRow_setCell_other hname (a := ⟨bn, 0, none⟩) (row_block_ne hname hb (by decide)) _).alloc _
      exact ⟨h1.1, by rw [hW]; exact h1.2⟩
    have hconv1 := conv_own (hbs ((w.setCell ⟨bn, 0, none⟩ (.map (some w.heap.size))).alloc (.map #[] 0)).drew rfl)
    rw [← hn] at hconv1
    have hsz : (w.setCell ⟨bn, 0, none⟩ (.map (some w.heap.size))).heap.size = w.heap.size := by simp [World.setCell]
    have hown : ((w.setCell ⟨bn, 0, none⟩ (.map (some w.heap.size))).alloc (.map #[] 0)).ownsMap Try.prog 9 (plainElem (H := Unit) Try.prog 3) w.heap.size 0 (.map []) := by
      have := World.ownsMap_made (H := Unit) (w.setCell ⟨bn, 0, none⟩ (.map (some w.heap.size))) Try.prog 9 (plainElem Try.prog 3)
      rw [hsz] at this
      exact this
    obtain ⟨w1, hupd, hown1, hgr⟩ := World.ownsMap.update (w := ((w.setCell ⟨bn, 0, none⟩ (.map (some w.heap.size))).alloc (.map #[] 0)).drew.drew) hown law9 Try.underlying37 (by unfold maxLen; omega) (val := .int .i64 ((0 : Nat) : Int)) hkey (plainElem_int Try.underlying3 (WalkArith.wf_i64 (by omega)))
    have hgr' : ((w.setCell ⟨bn, 0, none⟩ (.map (some w.heap.size))).alloc (.map #[] 0)).grownBy w1 (some w.heap.size) := ⟨hgr.os, hgr.tape, hgr.output, hgr.size, hgr.block⟩
    have hb1 : w1.heap[bn]? = some (.cells #[.map (some w.heap.size), .slice none 0 0] 52 (0, 0)) := by
      rw [hgr'.block bn (by simp [hsz]; omega) (fun e => by simp at e; omega), Below.heap_alloc _ _ _ (by rw [hsz]; exact hlt)]
      exact two_setCell0 hb
    refine (place_new bn va vn vc (str n) w w1 hb hconv hlook hconv1 hupd hb1).mono fun e w' ⟨he, hG⟩ => ?_
    have ho1 : Off S w w1 := (((Off.refl S w).setCell (p := ⟨bn, 0, none⟩) (fun _ => hS) (.map (some w.heap.size))).alloc (.map #[] 0)).grown hgr' (fun k hk e => by simp at e; omega)
    have hadd : addName [] n = [] ++ [n] := by simp [addName]
    rw [hadd]
    refine ⟨by rw [he]; rfl, names_grew (l := []) (D := DataW.put (.map []) (.string n) (.lit (.int .i64 (([] : List (List UInt8)).length : Int)))) ho1 hS (Or.inr (Nat.le_refl _)) hrS hb1 hown1 (reads_add reads_nil tidy_empty (by simp)) (World.ownsRow_nil _ _ _ _) hG⟩
  · by_cases hin : n ∈ l
    · -- held
      have hlt := List.idxOf_lt_length_of_mem hin
      obtain ⟨x, ps, hlook, hx⟩ := World.ownsMap.look_ok (w := w.drew) hown law9 Try.underlying37 (zero3 _) (plainElem_int Try.underlying3 (a := 0) (by decide)) hkey
      rw [hr.place n hin] at hx
      obtain ⟨q, rfl, hq, _⟩ := plainElem_int_inv Try.underlying3 hx
      simp only [Prod.mk.injEq, DataW.lit.injEq, Lit.int.injEq, true_and] at hq
      obtain ⟨rfl, _⟩ := hq
      rw [hr.has n, decide_eq_true hin] at hlook
      rcases ownsRow_shape hrow with ⟨_, h0, _⟩ | ⟨g, cap, hv, _, _, hcell, _⟩
      · omega
      · simp only [Value.slice.injEq, true_and] at hv
        obtain ⟨rfl, hcap⟩ := hv
        have hci : w.cell? ⟨g, l.idxOf n, none⟩ = some (.string (str n)) := by rw [hcell _ hlt]; exact getElem_idxOf hin
        refine (place_hit bn m va vn vc (str n) g scap (l.idxOf n) l.length w c0 c1 hconv hlook hlt hci).mono fun e w' ⟨he, h1, h2, h3, h4⟩ => ?_
        have ho : Off S w w' := Off.same h1 h2 h3 h4
        refine ⟨he, ?_, ho⟩
        rw [addName, if_pos hin]
        exact (hns'.same ho h1).mono (fun _ _ h => Or.inl h)
    · -- not held
      obtain ⟨x, ps, hlook, hx⟩ := World.ownsMap.look_ok (w := w.drew) hown law9 Try.underlying37 (zero3 _) (plainElem_int Try.underlying3 (a := 0) (by decide)) hkey
      rw [Maps.atKey_of_not_has (by rw [hr.has n]; simp [hin])] at hx
      obtain ⟨q, rfl, hq, _⟩ := plainElem_int_inv Try.underlying3 hx
      simp only [Prod.mk.injEq, DataW.lit.injEq, Lit.int.injEq, true_and] at hq
      obtain ⟨rfl, _⟩ := hq
      rw [hr.has n, decide_eq_false hin] at hlook
      obtain ⟨w1, hupd, hown1, hgr⟩ := World.ownsMap.update (w := w.drew.drew) hown law9 Try.underlying37 (by unfold maxLen; omega) (val := .int .i64 (l.length : Int)) hkey (plainElem_int Try.underlying3 (WalkArith.wf_i64 (by omega)))
      have hgr' : w.grownBy w1 (some m) := ⟨hgr.os, hgr.tape, hgr.output, hgr.size, hgr.block⟩
      have hb1 : w1.heap[bn]? = some (.cells #[.map (some m), .slice sa l.length scap] 52 (0, 0)) := by
        rw [hgr'.block bn (lt_of_block hb) (fun e => block_map_ne hown hb (by simpa using e.symm))]; exact hb
      have hrow1 : w1.ownsRow 0 9 1 (.slice sa l.length scap) l.length (l.map fun s => Value.string (str s)) := hrow.kept hgr' (Or.inr (row_map_ne hrow hown))
      refine (place_old bn m va vn vc (str n) sa scap l.length w w1 _ c0 c1 hconv hlook hupd hl hb1 hrow1).mono fun e w' ⟨he, hG⟩ => ?_
      rw [List.idxOf_eq_length hin, addName, if_neg hin]
      exact ⟨he, names_grew (Off.of_grown hgr' (fun k e => by cases e; exact hmS)) hS (Or.inl hmS) hrS hb1 hown1 (reads_add hr (hown.tidy law9) hin) hrow1 hG⟩

set_option maxHeartbeats 400000 in
/-- files.ZZNamesPlace hands on to it. -/
theorem zzPlace_any {w : World} {S : Nat → Prop} {bn : Nat} {l : List (List UInt8)} {v : Value} {zs : List Int} (hns : Names w S bn l) (hname : w.ownsRow 0 5 1 v zs.length (zs.map (Value.int .u8))) (hl : l.length ≤ 1048576) (hz : zs.length ≤ 1048576) :
    Calls Try.prog 19 #[.pointer (some ⟨bn, 0, none⟩), v] w fun e w' => e = .returned (.tuple #[.int .i64 (l.idxOf (bytesOf zs) : Nat), .string (str (bytesOf zs))]) ∧
      Names w' (Wider S w) bn (addName l (bytesOf zs)) ∧ Off S w w' := by
  have hp := place_any hns hname hl hz
  generalize (l.idxOf (bytesOf zs) : Nat) = q at *
  generalize hN : addName l (bytesOf zs) = l' at *
  generalize str (bytesOf zs) = s at *
  clear hN hns hname hl hz
  go_enter Try.func19, Try.ntmps19
  go_wp2_with fail
  refine hp.mono ?_
  rintro e w' ⟨rfl, h1, h2⟩
  go_wp2
  go_ret2
  exact ⟨rfl, h1, h2⟩
end Go.Proofs.Qxb6601407a
