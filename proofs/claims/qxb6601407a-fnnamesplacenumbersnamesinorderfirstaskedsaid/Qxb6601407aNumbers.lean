/-
  Seat b6601407a. FnNamesPlaceNumbersNamesInOrderFirstAsked (F6): the walk.
-/
import Derived.Test.Qxb6601407aScript
namespace Go.Proofs.Qxb6601407a
open Go.RowKit Go.Maps Go.Deep

/-- placeAt behind k rounds. -/
def placeFill (Zs : List (List Int)) (k : Nat) : Nat → Value := fun j => if j < k then .int .i64 ((held (nms Zs k)).idxOf (nm Zs j) : Nat) else .int .i64 0

theorem placeFill_step (Zs : List (List Int)) (k j : Nat) : (if j = k then Value.int .i64 ((held (nms Zs k)).idxOf (nm Zs k) : Nat) else placeFill Zs k j) = placeFill Zs (k + 1) j := by
  unfold placeFill
  rw [nms_succ, held_snoc]
  by_cases h : j = k
  · subst h
    rw [if_pos rfl, if_pos (by omega), idxOf_addName_self]
  · by_cases h2 : j < k
    · rw [if_neg h, if_pos h2, if_pos (by omega), idxOf_addName (mem_held.2 (mem_nms h2))]
    · rw [if_neg h, if_neg h2, if_neg (by omega)]

/-- What holds at the head of round k; w1: the world behind the copy; its heap's size is the block of 'ns', then firstStep's, then placeAt's. -/
structure Rel6 (w1 wr : World) (Zs : List (List Int)) (k : Nat) : Prop where
  names : Names wr (Mine w1.heap.size 3) w1.heap.size (held (nms Zs k))
  firsts : ∃ D, wr.ownsMap Try.prog 9 (plainElem Try.prog 3) (w1.heap.size + 1) k D ∧ Firsts D (nms Zs k)
  places : wr.rowIs (w1.heap.size + 1 + 1) 3 Zs.length (placeFill Zs k)
  below : Below w1.heap.size w1 wr
  size : w1.heap.size + 3 ≤ wr.heap.size

theorem rel6_start (w1 : World) (Zs : List (List Int)) :
    Rel6 w1 (((w1.alloc (.cells #[.map none, .slice none 0 0] 52)).alloc (.map #[] 0)).alloc (.cells (madeCells #[.int .i64 0] Zs.length) 3)) Zs 0 := by
  have h1 := Names.fresh w1 (Mine w1.heap.size 3) (Or.inl rfl)
  have h2 := World.ownsMap_made (H := Unit) (w1.alloc (.cells #[.map none, .slice none 0 0] 52)) Try.prog 9 (plainElem Try.prog 3)
  have h3 := World.rowIs_made ((w1.alloc (.cells #[.map none, .slice none 0 0] 52)).alloc (.map #[] 0)) (.int .i64 0) Zs.length 3
  simp only [World.size_alloc] at h2 h3
  refine ⟨(h1.off ((Off.refl (fun _ => False) _).alloc _) (fun _ _ _ h => h)).off ((Off.refl (fun _ => False) _).alloc _) (fun _ _ _ h => h), ⟨_, h2.alloc _, firsts_nil⟩, h3.congr (fun i _ => by simp [placeFill]), ?_, by simp⟩
  exact ((((Below.refl _ _).alloc (Nat.le_refl _) _).alloc (by simp) _).alloc (by simp; omega) _)

/-- Behind the call of place and the store of its answer. -/
theorem rel6_mid {w1 wr w' : World} {Zs : List (List Int)} {k : Nat} (h : Rel6 w1 wr Zs k) (hN : Names w' (Wider (Mine w1.heap.size 3) wr) w1.heap.size (addName (held (nms Zs k)) (nm Zs k))) (ho : Off (Mine w1.heap.size 3) wr w') :
    (k < Zs.length → ∃ x, w'.cell? ⟨w1.heap.size + 1 + 1, k, none⟩ = some (.int .i64 x)) ∧ w'.frozen? ⟨w1.heap.size + 1 + 1, k, none⟩ = false ∧
    ∃ w2, w2 = w'.setCell ⟨w1.heap.size + 1 + 1, k, none⟩ (.int .i64 ((held (nms Zs k)).idxOf (nm Zs k) : Nat)) ∧
      Names w2 (Mine w1.heap.size 3) w1.heap.size (held (nms Zs (k + 1))) ∧ (∃ D, w2.ownsMap Try.prog 9 (plainElem Try.prog 3) (w1.heap.size + 1) k D ∧ Firsts D (nms Zs k)) ∧
      w2.rowIs (w1.heap.size + 1 + 1) 3 Zs.length (placeFill Zs (k + 1)) ∧ Below w1.heap.size w1 w' ∧ Below w1.heap.size w1 w2 ∧ w1.heap.size + 3 ≤ w2.heap.size := by
  have hs := h.size
  have hr1 : w'.rowIs (w1.heap.size + 1 + 1) 3 Zs.length (placeFill Zs k) := h.places.of_block (ho.block _ (by omega) (fun e => by rcases e with e | e <;> omega))
  have hb' : Below w1.heap.size w1 w' := h.below.trans (ho.below (by omega) (fun j hj e => by rcases e with e | e <;> omega))
  obtain ⟨D, hD, hF⟩ := h.firsts
  have hD' : w'.ownsMap Try.prog 9 (plainElem Try.prog 3) (w1.heap.size + 1) k D := ho.ownsMap hD (fun e => by rcases e with e | e <;> omega)
  refine ⟨fun hk => ?_, hr1.frozen k, _, rfl, ?_, ⟨D, hD'.setCell (a := ⟨w1.heap.size + 1 + 1, k, none⟩) (by simp) _, hF⟩, (hr1.set k _).congr (fun i _ => placeFill_step Zs k i), hb', ?_, ?_⟩
  · have := hr1.cell hk
    simp only [placeFill, Nat.lt_irrefl, if_false] at this
    exact ⟨0, this⟩
  · rw [nms_succ, held_snoc]
    exact (hN.shrink hs).off (T := fun j => j = w1.heap.size + 1 + 1) ((Off.refl (fun j => j = w1.heap.size + 1 + 1) w').setCell (p := ⟨w1.heap.size + 1 + 1, k, none⟩) (fun _ => rfl) _) (fun j _ h e => by rcases h with h | h <;> omega)
  · exact hb'.setCell (p := ⟨w1.heap.size + 1 + 1, k, none⟩) (by simp; omega) _
  · have := ho.size; simp [World.setCell]; omega

/-- Behind the store into firstStep. -/
theorem rel6_new {w1 w3 w4 : World} {Zs : List (List Int)} {k : Nat} {D : DataW Unit} (hN : Names w3 (Mine w1.heap.size 3) w1.heap.size (held (nms Zs (k + 1)))) (hp : w3.rowIs (w1.heap.size + 1 + 1) 3 Zs.length (placeFill Zs (k + 1)))
    (hb : Below w1.heap.size w1 w3) (hs : w1.heap.size + 3 ≤ w3.heap.size) (hD : w4.ownsMap Try.prog 9 (plainElem Try.prog 3) (w1.heap.size + 1) (k + 1) D) (hF : Firsts D (nms Zs k ++ [nm Zs k])) (hg : w3.grownBy w4 (some (w1.heap.size + 1))) : Rel6 w1 w4 Zs (k + 1) := by
  refine ⟨hN.off (T := fun j => j = w1.heap.size + 1) (Off.of_grown hg (fun j e => by simpa using e.symm)) (fun j _ h e => by rcases h with h | h <;> omega), ⟨D, hD, by rw [nms_succ]; exact hF⟩, ?_, ?_, ?_⟩
  · exact hp.of_block (hg.block _ hp.lt (by simp))
  · exact hb.grown hg (by omega) (fun j e => by simp at e; omega)
  · have := hg.size; omega

/-- What the law asks at step k. -/
theorem fresh_or_seen (Zs : List (List Int)) (k : Nat) : (nm Zs k ∈ nms Zs k → ∃ j, (nms Zs k).idxOf (nm Zs k) = j ∧ j < k ∧ nm Zs j = nm Zs k) ∧ (nm Zs k ∉ nms Zs k → (held (nms Zs k)).idxOf (nm Zs k) = (held (nms Zs k)).length) := by
  constructor
  · intro h
    have hlt := List.idxOf_lt_length_of_mem h
    refine ⟨_, rfl, by rw [nms_len] at hlt; exact hlt, ?_⟩
    have h1 := nms_get Zs (j := (nms Zs k).idxOf (nm Zs k)) (k := k) (by rw [nms_len] at hlt; exact hlt)
    rw [List.getElem?_eq_getElem hlt, List.getElem_idxOf] at h1
    exact (Option.some.inj h1).symm
  · intro h
    exact List.idxOf_eq_length (fun hm => h (mem_held.1 hm))

theorem held_len_seen {Zs : List (List Int)} {k : Nat} (h : nm Zs k ∈ nms Zs k) : (held (nms Zs (k + 1))).length = (held (nms Zs k)).length := by
  rw [nms_succ, held_snoc, addName, if_pos (mem_held.2 h)]
theorem held_len_new {Zs : List (List Int)} {k : Nat} (h : nm Zs k ∉ nms Zs k) : (held (nms Zs (k + 1))).length = (held (nms Zs k)).length + 1 := by
  rw [nms_succ, held_snoc, addName, if_neg (fun hm => h (mem_held.1 hm))]; simp

set_option maxHeartbeats 1000000 in
theorem walk6 {w : World} {v : Value} {Zs : List (List Int)} (hv : ScriptView w v Zs) : Calls Try.prog 6 #[v] w fun e w' => Post w e w' := by
  have hmm := @run_makeMap Try.prog
  have h23 := bytes23_any hv
  have h24 := fits_any hv
  have h25 := copyScript_any hv
  obtain ⟨a, c, rfl, _⟩ := hv
  go_enter Try.func6, Try.ntmps6
  go_wp2_with fail
  refine h23.mono ?_
  rintro e w' ⟨b, rfl, rfl⟩
  cases b
  · go_wp2
    go_ret
    exact ⟨rfl, Below.refl _ _⟩
  go_wp2_with fail
  refine h24.mono ?_
  rintro e w'' ⟨b, rfl, rfl, hfit⟩
  cases b
  · go_wp2
    go_ret
    exact ⟨rfl, Below.refl _ _⟩
  obtain ⟨hn, hZ⟩ := hfit rfl
  have h25' := h25 (by omega) hZ
  have HF : Hid (∀ j, j < Zs.length → (Zs.getD j []).length ≤ 1048576) := hZ
  clear hfit h23 h24 h25 hZ
  go_wp2_with fail
  refine h25'.mono ?_
  rintro e w1 ⟨v', rfl, hos, hb1⟩
  have hmk := run_make_row' (P := Try.prog) 53 3 (.int .i64 0) 8 Try.underlying53 Try.info3 rfl .i64 .i64 Zs.length (by omega) (by omega)
  obtain ⟨va, vc, ev⟩ := hos.shape
  have HO : Hid (OwnScript w1 w''.heap.size v' Zs) := hos
  have HE : Hid (v' = .slice va Zs.length vc) := ev
  have HB : Hid (Below w''.heap.size w'' w1) := hb1
  rw [ev]
  clear hos ev hb1 h25'
  have hstart := rel6_start w1 Zs
  go_wp2
  go_loopw [6, 7] (fun f i wr => ∃ k : Nat, k ≤ Zs.length ∧ i = .int .i64 k ∧ f = .int .i64 ((held (nms Zs k)).length : Nat) ∧ Rel6 w1 wr Zs k) (fun _ i _ => Zs.length - (intOf i).toNat)
  case atStart => exact ⟨0, Nat.zero_le _, rfl, rfl, hstart⟩
  case round =>
    obtain ⟨k, hk, rfl, rfl, hR⟩ := hrel
    clear hstart
    by_cases hlt : k < Zs.length
    · obtain ⟨g, gc, x, ev, F⟩ := script_at HO.out hlt
      obtain ⟨rfl, rfl⟩ : va = some ⟨g, 0, none⟩ ∧ vc = gc := by
        have := HE.out; rw [ev] at this; simpa using this.symm
      obtain ⟨hcx, hrow, _⟩ := F wr hR.below
      have hhl : (held (nms Zs k)).length ≤ 1048576 := by have := held_len (nms Zs k); rw [nms_len] at this; omega
      have hnl := nm_len HF.out hlt
      have hcall := zzPlace_any hR.names hrow hhl (HF.out k hlt)
      change Calls Try.prog 19 #[.pointer (some ⟨w1.heap.size, 0, none⟩), x] wr fun e w' => e = .returned (.tuple #[.int .i64 ((held (nms Zs k)).idxOf (nm Zs k) : Nat), .string (str (nm Zs k))]) ∧
        Names w' (Wider (Mine w1.heap.size 3) wr) w1.heap.size (addName (held (nms Zs k)) (nm Zs k)) ∧ Off (Mine w1.heap.size 3) wr w' at hcall
      obtain ⟨xa, xc, ex⟩ := own_slice5 hrow
      have HRR : Hid (Rel6 w1 wr Zs k) := hR
      have HFF : Hid (∀ W, Below w1.heap.size w1 W → W.cell? ⟨g, k, none⟩ = some x ∧ W.ownsRow 0 5 1 x (Zs.getD k []).length ((Zs.getD k []).map (Value.int .u8)) ∧ (convert 35 9 x).run Try.prog W = .ok (.string (str (nm Zs k))) W) := F
      clear F hR hrow HO HE
      rw [ex] at hcx hcall
      generalize (Zs.getD k []).length = q at *
      go_wp2_with fail
      refine hcall.mono ?_
      rintro e w2 ⟨rfl, hN, hO⟩
      obtain ⟨hc2, hf2, w3, e3, hN3, ⟨D3, hD3, hF3⟩, hp3, hb2, hb3, hs3⟩ := rel6_mid HRR.out hN hO
      obtain ⟨x0, hc2'⟩ := hc2 hlt
      have hv2 := (HFF.out w2 hb2).2.2
      have hv3 := (HFF.out w3 hb3).2.2
      have hlook := look_firsts hD3 hF3 hnl
      rw [ex] at hv2 hv3
      have hfr := fresh_or_seen Zs k
      generalize hp : (held (nms Zs k)).idxOf (nm Zs k) = p at *
      by_cases hin : nm Zs k ∈ nms Zs k
      · obtain ⟨j, hj, hjk, hnj⟩ := hfr.1 hin
        have hcj : w3.cell? ⟨w1.heap.size + 1 + 1, j, none⟩ = some (.int .i64 (p : Nat)) := by
          rw [hp3.cell (by omega), placeFill, if_pos (by omega), hnj, nms_succ, held_snoc, idxOf_addName_self, hp]
        rw [if_pos hin, decide_eq_true hin, hj] at hlook
        have HG : Hid (Rel6 w1 w3 Zs (k + 1)) := ⟨hN3, ⟨D3, hD3.mono (Nat.le_succ _), by rw [nms_succ]; exact firsts_old hF3 hin⟩, hp3, hb3, hs3⟩
        have HL : Hid ((held (nms Zs (k + 1))).length = (held (nms Zs k)).length) := held_len_seen hin
        generalize str (nm Zs k) = s at *
        generalize (held (nms Zs k)).length = hl at *
        subst e3
        have hne : ¬ k = j := by omega
        clear hp3 hN3 hD3 hF3 hb3 hs3 hb2 hfr hp hj hnj hin hN hO HRR HFF hc2 hnl hcall hcx ex
        go_wp2
        go_roundw
        case rel => exact ⟨k + 1, by omega, by go_num, by rw [HL.out], HG.out⟩
        case measure => simp [intOf]; omega
      · have hpl := hfr.2 hin
        obtain ⟨w4, hupd, ⟨D4, hD4, hF4⟩, hgr⟩ := store_firsts hD3 hF3 hnl (by omega) (by rw [nms_len]; omega) hin
        rw [nms_len] at hupd
        rw [if_neg hin, decide_eq_false hin] at hlook
        have HG : Hid (Rel6 w1 w4 Zs (k + 1)) := rel6_new hN3 hp3 hb3 hs3 hD4 hF4 hgr
        have HL : Hid ((held (nms Zs (k + 1))).length = (held (nms Zs k)).length + 1) := held_len_new hin
        generalize str (nm Zs k) = s at *
        subst hpl
        generalize (held (nms Zs k)).length = hl at *
        subst e3
        clear hp3 hN3 hD3 hF3 hb3 hs3 hb2 hfr hp hin hN hO HRR HFF hc2 hnl hcall hcx ex hD4 hF4 hgr
        go_wp2
        go_roundw
        case rel => exact ⟨k + 1, by omega, by go_num, by rw [HL.out]; go_num, HG.out⟩
        case measure => simp [intOf]; omega
    · go_wp2
      go_ret
      exact ⟨rfl, HB.out.trans (hR.below.mono HB.out.size)⟩
end Go.Proofs.Qxb6601407a
