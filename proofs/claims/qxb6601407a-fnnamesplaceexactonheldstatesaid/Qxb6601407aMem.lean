/-
  Seat b6601407a. The memory layer: 'Off S' (outside the set S of blocks nothing has turned), 'Names' (a 'names' struct in memory that holds the list l), and what steps of the world do to them.
-/
import Derived.Test.Qxb6601407aRows
import Derived.WalkKit
import Derived.WalkSpells
import Derived.WalkLawsBesides
import Derived.Maps.OwnSet
import Derived.Maps.AppendAt
import Derived.Laws.BytesArg
import Derived.OneCell
namespace Go.Proofs.Qxb6601407a
open Go.RowKit Go.Maps

theorem law9 : Keyed Try.prog 9 := string_keyed Try.underlying9
theorem zero3 (w : World) : (zeroValue 3).run Try.prog w = .ok (.int .i64 0) w := by kernel_rfl
theorem Try.info9 : (Try.prog.info? 9).map (fun i => (i.zero, i.size, i.bytes)) = some (some (.string ByteArray.empty), 1, 16) := by kernel_rfl
theorem Try.info5 : (Try.prog.info? 5).map (fun i => (i.zero, i.size, i.bytes)) = some (some (.int .u8 0), 1, 1) := by kernel_rfl
theorem Try.info3 : (Try.prog.info? 3).map (fun i => (i.zero, i.size, i.bytes)) = some (some (.int .i64 0), 1, 8) := by kernel_rfl
theorem Try.info35 : (Try.prog.info? 35).map (fun i => (i.zero, i.size, i.bytes)) = some (some (.slice none 0 0), 1, 24) := by kernel_rfl

/-! ### 'Off S w w'': outside the set S nothing that was there has turned -/
structure Off (S : Nat → Prop) (w w' : World) : Prop where
  os : w'.os = w.os
  tape : w'.tape = w.tape
  output : w'.output = w.output
  size : w.heap.size ≤ w'.heap.size
  block : ∀ k, k < w.heap.size → ¬ S k → w'.heap[k]? = w.heap[k]?

theorem Off.refl (S : Nat → Prop) (w : World) : Off S w w := ⟨rfl, rfl, rfl, Nat.le_refl _, fun _ _ _ => rfl⟩

theorem Off.trans {S T : Nat → Prop} {a b c : World} (h : Off S a b) (k : Off T b c) (hst : ∀ j, j < a.heap.size → T j → S j) : Off S a c :=
  ⟨k.os.trans h.os, k.tape.trans h.tape, k.output.trans h.output, Nat.le_trans h.size k.size,
   fun i hi hs => (k.block i (Nat.lt_of_lt_of_le hi h.size) (fun t => hs (hst i hi t))).trans (h.block i hi hs)⟩

theorem Off.mono {S T : Nat → Prop} {a b : World} (h : Off S a b) (hst : ∀ j, j < a.heap.size → S j → T j) : Off T a b :=
  ⟨h.os, h.tape, h.output, h.size, fun i hi hs => h.block i hi (fun t => hs (hst i hi t))⟩

theorem Off.of_grown {S : Nat → Prop} {w w' : World} {row : Option Nat} (h : w.grownBy w' row) (hr : ∀ k, row = some k → S k) : Off S w w' :=
  ⟨h.os, h.tape, h.output, h.size, fun k hk hs => h.block k hk (fun e => hs (hr k e.symm))⟩

theorem Off.grown {S : Nat → Prop} {a w w' : World} {row : Option Nat} (h : Off S a w) (hg : w.grownBy w' row) (hr : ∀ k, k < a.heap.size → row = some k → S k) : Off S a w' :=
  h.trans (Off.of_grown (S := fun k => row = some k) hg (fun _ e => e)) (fun k hk e => hr k hk e)

theorem Off.drew {S : Nat → Prop} {a w : World} (h : Off S a w) : Off S a w.drew := ⟨h.os, h.tape, h.output, h.size, h.block⟩
theorem Off.drewN {S : Nat → Prop} {a w : World} (h : Off S a w) (n : Nat) : Off S a (w.drewN n) := ⟨h.os, h.tape, h.output, h.size, h.block⟩

theorem Off.alloc {S : Nat → Prop} {a w : World} (h : Off S a w) (o : Obj) : Off S a (w.alloc o) :=
  h.grown (row := none) (World.grownBy_alloc w o none) (fun _ _ e => by cases e)

theorem Off.setCell {S : Nat → Prop} {a w : World} (h : Off S a w) {p : Addr} (hp : p.block < a.heap.size → S p.block) (u : Value) : Off S a (w.setCell p u) :=
  h.trans (T := fun k => k = p.block) ⟨rfl, rfl, rfl, by simp [World.setCell], fun k _ hk => Below.heap_setCell _ _ _ _ hk⟩ (fun k hk e => by subst e; exact hp hk)

theorem Off.of_below {S : Nat → Prop} {a w : World} (h : Below a.heap.size a w) : Off S a w := ⟨h.os, h.tape, h.output, h.size, fun k hk _ => h.block k hk⟩

theorem Off.below {S : Nat → Prop} {a w : World} {B : Nat} (h : Off S a w) (hB : B ≤ a.heap.size) (hS : ∀ k, k < B → ¬ S k) : Below B a w :=
  ⟨h.os, h.tape, h.output, h.size, fun k hk => h.block k (by omega) (hS k hk)⟩

theorem Off.ownsRow {S : Nat → Prop} {w w' : World} (h : Off S w w') {base : Nat} {e : TypeId} {size : Nat} {v : Value} {n : Nat} {xs : List Value}
    (ho : w.ownsRow base e size v n xs) (hs : ∀ g, v.ownBlock = some g → ¬ S g) : w'.ownsRow base e size v n xs := by
  refine ⟨ho.1, ?_⟩
  rcases ho.2 with h2 | ⟨g, cap, cur, hv, hg, hh, r⟩
  · exact Or.inl h2
  · exact Or.inr ⟨g, cap, cur, hv, hg, by rw [h.block g (lt_of_block hh) (hs g (by rw [hv]; rfl))]; exact hh, r⟩

theorem Off.ownsMap {S : Nat → Prop} {w w' : World} (h : Off S w w') {P : Program} {k : TypeId} {H : Type} {R : Value → Option (DataW H × List MemPlace)} {b n : Nat} {D : DataW H}
    (ho : w.ownsMap P k R b n D) (hs : ¬ S b) : w'.ownsMap P k R b n D := by
  obtain ⟨es, clock, hb, r⟩ := ho
  exact ⟨es, clock, by rw [h.block b (lt_of_block hb) hs]; exact hb, r⟩

theorem Off.heap {S : Nat → Prop} {w w' : World} (h : Off S w w') {b : Nat} {o : Obj} (hb : w.heap[b]? = some o) (hs : ¬ S b) : w'.heap[b]? = some o := by
  rw [h.block b (lt_of_block hb) hs]; exact hb

/-! ### an owned row's own facts -/
theorem ownsRow_len {w : World} {base : Nat} {e : TypeId} {v : Value} {n : Nat} {xs : List Value} (h : w.ownsRow base e 1 v n xs) : xs.length = n := by simpa using h.1

/-- The value's shape: nil, or a row at offset 0. -/
theorem ownsRow_shape {w : World} {base : Nat} {e : TypeId} {v : Value} {n : Nat} {xs : List Value} (h : w.ownsRow base e 1 v n xs) :
    (v = .slice none 0 0 ∧ n = 0 ∧ xs = []) ∨ ∃ g cap, v = .slice (some ⟨g, 0, none⟩) n cap ∧ n ≤ cap ∧ g < w.heap.size ∧ (∀ j, j < n → w.cell? ⟨g, j, none⟩ = xs[j]?) ∧ ∀ j, w.frozen? ⟨g, j, none⟩ = false := by
  have hlen := ownsRow_len h
  rcases h.2 with ⟨h1, h2⟩ | ⟨g, cap, cur, hv, hg, hh, hn, hc, hs, ht⟩
  · exact Or.inl ⟨h1, h2, by subst h2; exact List.length_eq_zero_iff.1 hlen⟩
  · subst hv
    exact Or.inr ⟨g, cap, rfl, hn, lt_of_block hh, fun j hj => h.cellAt j (by omega), fun j => h.frozenAt j⟩

/-- A row of elements of one type and a block of another are two. -/
theorem row_block_ne {w : World} {base : Nat} {e t : TypeId} {size : Nat} {v : Value} {n : Nat} {xs : List Value} {b : Nat} {cs : Array Value} {fz : Nat × Nat}
    (h : w.ownsRow base e size v n xs) (hb : w.heap[b]? = some (.cells cs t fz)) (hne : e ≠ t) : v.ownBlock ≠ some b := by
  rcases h.2 with ⟨h1, _⟩ | ⟨g, cap, cur, hv, hg, hh, _⟩
  · subst h1; simp [Value.ownBlock]
  · subst hv
    intro e0
    simp only [Value.ownBlock, Option.some.injEq] at e0
    subst e0
    rw [hh] at hb
    simp only [Option.some.injEq, Obj.cells.injEq] at hb
    exact hne hb.2.1

theorem row_map_ne {w : World} {base : Nat} {e : TypeId} {size : Nat} {v : Value} {n : Nat} {xs : List Value} {P : Program} {k : TypeId} {H : Type} {R : Value → Option (DataW H × List MemPlace)} {b m : Nat} {D : DataW H}
    (h : w.ownsRow base e size v n xs) (hb : w.ownsMap P k R b m D) : v.ownBlock ≠ some b := by
  rcases h.2 with ⟨h1, _⟩ | ⟨g, cap, cur, hv, hg, hh, _⟩
  · subst h1; simp [Value.ownBlock]
  · subst hv
    intro e0
    simp only [Value.ownBlock, Option.some.injEq] at e0
    subst e0
    obtain ⟨es, clock, hm, _⟩ := hb
    rw [hh] at hm
    simp at hm

theorem block_map_ne {w : World} {P : Program} {k : TypeId} {H : Type} {R : Value → Option (DataW H × List MemPlace)} {b m : Nat} {D : DataW H} {j : Nat} {cs : Array Value} {t : TypeId} {fz : Nat × Nat}
    (hb : w.ownsMap P k R b m D) (hj : w.heap[j]? = some (.cells cs t fz)) : b ≠ j := by
  intro e
  subst e
  obtain ⟨es, clock, hm, _⟩ := hb
  rw [hj] at hm
  simp at hm

/-! ### the names that a map of places reads as -/
/-- A name as a Go string. -/
def str (n : List UInt8) : ByteArray := ⟨n.toArray⟩
theorem str_list (n : List UInt8) : (str n).data.toList = n := by simp [str]
theorem str_size (n : List UInt8) : (str n).size = n.length := by simp [str, ByteArray.size]

structure Reads (D : DataW Unit) (l : List (List UInt8)) : Prop where
  has : ∀ s, Maps.has D (.string s) = decide (s ∈ l)
  place : ∀ s, s ∈ l → D.atKey (.string s) (.lit (.int .i64 0)) = .lit (.int .i64 (l.idxOf s : Int))
  count : Maps.size D = l.length

theorem lit_ne {s t : List UInt8} (h : s ≠ t) : (Lit.string s) ≠ .string t := by
  intro e
  simp only [Lit.string.injEq] at e
  exact h e

theorem key_lit (s : List UInt8) : WideAt.IsKeyLit (.string s) := by simp [WideAt.IsKeyLit]

theorem reads_nil : Reads (.map []) [] := ⟨fun s => by simp [Maps.has], fun s h => (by cases h), rfl⟩

theorem reads_add {D : DataW Unit} {l : List (List UInt8)} (h : Reads D l) (ht : Tidy D) {s : List UInt8} (hs : s ∉ l) :
    Reads (D.put (.string s) (.lit (.int .i64 (l.length : Int)))) (l ++ [s]) := by
  refine ⟨fun t => ?_, fun t htm => ?_, ?_⟩
  · by_cases e : t = s
    · subst e
      rw [Maps.has_put_same ht.isMap (key_lit _)]
      simp
    · rw [Maps.has_put_other (lit_ne e), h.has t]
      simp [e]
  · by_cases e : t = s
    · subst e
      rw [Maps.atKey_put_same ht.isMap (key_lit _), List.idxOf_append, if_neg hs]
      simp
    · have htl : t ∈ l := by simpa [e] using htm
      rw [Maps.atKey_put_other (lit_ne e), h.place t htl, List.idxOf_append, if_pos htl]
  · rw [Maps.size_put ht, h.has s, h.count]
    simp [hs]

/-! ### a 'names' in memory -/
/-- Block bn is a 'names' struct that holds the names l, each once, in order; all its memory lies in S. -/
def Names (w : World) (S : Nat → Prop) (bn : Nat) (l : List (List UInt8)) : Prop :=
  ∃ mv sv, w.heap[bn]? = some (.cells #[mv, sv] 52 (0, 0)) ∧ S bn ∧ w.ownsRow 0 9 1 sv l.length (l.map fun s => Value.string (str s)) ∧ (∀ g, sv.ownBlock = some g → S g) ∧
    ((mv = .map none ∧ l = [] ∧ sv = .slice none 0 0) ∨ ∃ m D, mv = .map (some m) ∧ S m ∧ w.ownsMap Try.prog 9 (plainElem Try.prog 3) m l.length D ∧ Reads D l)

theorem Names.mono {w : World} {S T : Nat → Prop} {bn : Nat} {l : List (List UInt8)} (h : Names w S bn l) (hst : ∀ j, j < w.heap.size → S j → T j) : Names w T bn l := by
  obtain ⟨mv, sv, hb, hS, hrow, hrS, hm⟩ := h
  refine ⟨mv, sv, hb, hst bn (lt_of_block hb) hS, hrow, fun g hg => hst g (hrow.lt g hg).2 (hrS g hg), ?_⟩
  rcases hm with hm | ⟨m, D, e, hmS, hown, hr⟩
  · exact Or.inl hm
  · exact Or.inr ⟨m, D, e, hst m hown.lt hmS, hown, hr⟩

theorem Names.off {w w' : World} {S T : Nat → Prop} {bn : Nat} {l : List (List UInt8)} (h : Names w S bn l) (ho : Off T w w') (hst : ∀ j, j < w.heap.size → S j → ¬ T j) : Names w' S bn l := by
  obtain ⟨mv, sv, hb, hS, hrow, hrS, hm⟩ := h
  refine ⟨mv, sv, ho.heap hb (hst bn (lt_of_block hb) hS), hS, ho.ownsRow hrow (fun g hg => hst g (hrow.lt g hg).2 (hrS g hg)), hrS, ?_⟩
  rcases hm with hm | ⟨m, D, e, hmS, hown, hr⟩
  · exact Or.inl hm
  · exact Or.inr ⟨m, D, e, hmS, ho.ownsMap hown (hst m hown.lt hmS), hr⟩

/-- A new 'names': both fields nil. -/
theorem Names.fresh (w : World) (S : Nat → Prop) (hS : S w.heap.size) : Names (w.alloc (.cells #[.map none, .slice none 0 0] 52)) S w.heap.size [] :=
  ⟨_, _, heap_alloc_new w _, hS, World.ownsRow_nil _ _ _ _, fun g hg => by simp [Value.ownBlock] at hg, Or.inl ⟨rfl, rfl, rfl⟩⟩

/-- The list behind 'place of s'. -/
def addName (l : List (List UInt8)) (s : List UInt8) : List (List UInt8) := if s ∈ l then l else l ++ [s]

/-- The bytes of a row of numbers. -/
def bytesOf (zs : List Int) : List UInt8 := zs.map fun n => UInt8.ofNat n.toNat
theorem bytesOf_len (zs : List Int) : (bytesOf zs).length = zs.length := by simp [bytesOf]

/-- 'string(name)' of a row of bytes that is owned. -/
theorem conv_own {w : World} {base : Nat} {v : Value} {zs : List Int} (h : w.ownsRow base 5 1 v zs.length (zs.map (Value.int .u8))) :
    (convert 35 9 v).run Try.prog w = .ok (.string (str (bytesOf zs))) w := by
  rcases ownsRow_shape h with ⟨rfl, h0, _⟩ | ⟨g, cap, rfl, _, _, hc, _⟩
  · obtain rfl : zs = [] := List.length_eq_zero_iff.1 h0
    rw [run_convert_bytes_nil w 35 5 Try.underlying35 Try.underlying5 0 0 9 Try.underlying9]
    rfl
  · refine run_convert_bytes_arg w 35 5 Try.underlying35 Try.underlying5 g 0 zs.length cap zs rfl (fun i hi => ?_) 9 Try.underlying9
    rw [Nat.zero_add, hc i hi]
    simp [List.getElem?_map, List.getElem?_eq_getElem hi, List.getD]

end Go.Proofs.Qxb6601407a
