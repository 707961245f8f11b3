/-
  Seat b6601407a. FnNamesPlaceGivesBackItsName (F7): the walk.
-/
import Derived.Test.Qxb6601407aScript
import Derived.RegionTactic
import Derived.ChangeAlike
import Derived.Deep.QuietTactic
import Derived.BigQuiet
namespace Go.Proofs.Qxb6601407a
open Go.RowKit Go.Maps Go.Deep

/-- A list of names as cells. -/
abbrev strs (l : List (List UInt8)) : List Value := l.map fun s => Value.string (str s)

/-- What holds at the head of round k: 'ns' and byPlace hold the same names, in memory apart. -/
def Rel7 (w1 wr : World) (Zs : List (List Int)) (k : Nat) (v : Value) : Prop :=
  ∃ S : Nat → Prop, Names wr S w1.heap.size (held (nms Zs k)) ∧ (∀ j, S j → w1.heap.size ≤ j) ∧ wr.ownsRow w1.heap.size 9 1 v (held (nms Zs k)).length (strs (held (nms Zs k))) ∧ (∀ g, v.ownBlock = some g → ¬ S g) ∧ Below w1.heap.size w1 wr ∧ w1.heap.size ≤ wr.heap.size

theorem rel7_start (w1 : World) (Zs : List (List Int)) : Rel7 w1 ((w1.alloc (.cells #[.map none, .slice none 0 0] 52)).alloc (.cells #[] 9)) Zs 0 (.slice (some ⟨w1.heap.size + 1, 0, none⟩) 0 0) := by
  have h1 := Names.fresh w1 (fun j => j = w1.heap.size) rfl
  have h2 := World.ownsRow_made (base := w1.heap.size) (e := 9) (size := 1) (w1.alloc (.cells #[.map none, .slice none 0 0] 52)) #[] 0 (by simp) (by unfold maxLen; omega) rfl
  simp only [World.size_alloc] at h2
  refine ⟨fun j => j = w1.heap.size, h1.off ((Off.refl (fun _ => False) _).alloc _) (fun _ _ _ h => h), fun j hj => by omega, h2, fun g hg => ?_, ?_, ?_⟩
  · simp only [Value.ownBlock, Option.some.injEq] at hg; omega
  · exact (((Below.refl _ _).alloc (Nat.le_refl _) _).alloc (by simp) _)
  · simp; omega

/-- Behind the call of place. -/
theorem rel7_mid {w1 wr w2 : World} {Zs : List (List Int)} {k : Nat} {S : Nat → Prop} {v : Value} (hs : w1.heap.size ≤ wr.heap.size) (hS : ∀ j, S j → w1.heap.size ≤ j) (hrow : wr.ownsRow w1.heap.size 9 1 v (held (nms Zs k)).length (strs (held (nms Zs k)))) (hd : ∀ g, v.ownBlock = some g → ¬ S g)
    (hb : Below w1.heap.size w1 wr) (hN : Names w2 (Wider S wr) w1.heap.size (addName (held (nms Zs k)) (nm Zs k))) (ho : Off S wr w2) :
    ∃ T : Nat → Prop, Names w2 T w1.heap.size (held (nms Zs (k + 1))) ∧ (∀ j, T j → w1.heap.size ≤ j) ∧ (∀ j, T j → j < w2.heap.size) ∧ w2.ownsRow w1.heap.size 9 1 v (held (nms Zs k)).length (strs (held (nms Zs k))) ∧ (∀ g, v.ownBlock = some g → ¬ T g) ∧ Below w1.heap.size w1 w2 ∧ w1.heap.size ≤ w2.heap.size := by
  refine ⟨fun j => Wider S wr j ∧ j < w2.heap.size, ?_, ?_, fun j h => h.2, ho.ownsRow hrow hd, ?_, ?_, Nat.le_trans hs ho.size⟩
  · rw [nms_succ, held_snoc]
    exact hN.mono (fun j hj h => ⟨h, hj⟩)
  · rintro j ⟨h | h, _⟩
    · exact hS j h
    · omega
  · rintro g hg ⟨h | h, _⟩
    · exact hd g hg h
    · have := (hrow.lt g hg).2; omega
  · exact hb.trans (ho.below hs (fun j hj h => by have := hS j h; omega))

theorem rel7_new {w1 w2 w3 : World} {Zs : List (List Int)} {k : Nat} {T : Nat → Prop} {v v' : Value} {o : Obj} {t : Nat} (hN : Names w2 T w1.heap.size (held (nms Zs (k + 1)))) (hT : ∀ j, T j → w1.heap.size ≤ j) (hT2 : ∀ j, T j → j < w2.heap.size)
    (hd : ∀ g, v.ownBlock = some g → ¬ T g) (hb : Below w1.heap.size w1 w2) (hs : w1.heap.size ≤ w2.heap.size) (hrow0 : w2.ownsRow w1.heap.size 9 1 v t (strs (held (nms Zs k))))
    (hrow : w3.ownsRow w1.heap.size 9 1 v' (held (nms Zs (k + 1))).length (strs (held (nms Zs (k + 1))))) (hg : (w2.alloc o).grownBy w3 v.ownBlock) (hloc : v'.ownBlock = v.ownBlock ∨ v'.ownBlock = some (w2.heap.size + 1)) : Rel7 w1 w3 Zs (k + 1) v' := by
  have ho : Off (fun j => v.ownBlock = some j) w2 w3 := ((Off.refl _ _).alloc o).grown hg (fun j _ e => e)
  refine ⟨T, hN.off ho (fun j _ h e => hd j e h), hT, hrow, ?_, ?_, Nat.le_trans hs ho.size⟩
  · intro g hg' hTg
    rcases hloc with h | h
    · exact hd g (h ▸ hg') hTg
    · rw [h] at hg'
      simp only [Option.some.injEq] at hg'
      have := hT2 g hTg
      omega
  · exact hb.trans (ho.below hs (fun j hj e => by have := (hrow0.lt j e).1; omega))

theorem Rel7.same {w1 w w' : World} {Zs : List (List Int)} {k : Nat} {v : Value} (h : Rel7 w1 w Zs k v) (hh : w'.heap = w.heap) (ho : w'.os = w.os) (hu : w'.output = w.output) (ht : w'.tape = w.tape) : Rel7 w1 w' Zs k v := by
  obtain ⟨S, a1, a2, a3, a4, a5, a6⟩ := h
  have hoff : Off (fun _ => False) w w' := ⟨ho, ht, hu, by rw [hh]; exact Nat.le_refl _, fun j _ _ => by rw [hh]⟩
  refine ⟨S, a1.off hoff (fun _ _ _ h => h), a2, hoff.ownsRow a3 (fun _ _ h => h), a4, ⟨ho.trans a5.os, ht.trans a5.tape, hu.trans a5.output, by rw [hh]; exact a5.size, fun j hj => by rw [hh]; exact a5.block j hj⟩, by rw [hh]; exact a6⟩

theorem below_drewN' {B : Nat} {a w : World} (h : Below B a w) (q : Nat) : Below B a (w.drewN q) := ⟨h.os, h.tape, h.output, h.size, h.block⟩

theorem held_seen {Zs : List (List Int)} {k : Nat} (h : nm Zs k ∈ held (nms Zs k)) : held (nms Zs (k + 1)) = held (nms Zs k) := by
  rw [nms_succ, held_snoc, addName, if_pos h]
theorem held_new {Zs : List (List Int)} {k : Nat} (h : nm Zs k ∉ held (nms Zs k)) : held (nms Zs (k + 1)) = held (nms Zs k) ++ [nm Zs k] := by
  rw [nms_succ, held_snoc, addName, if_neg h]

theorem strs_idxOf {l : List (List UInt8)} {n : List UInt8} (h : n ∈ l) : (strs l)[l.idxOf n]? = some (.string (str n)) := getElem_idxOf h

theorem strs_snoc (l : List (List UInt8)) (n : List UInt8) : strs (l ++ [n]) = strs l ++ [.string (str n)] := by simp [strs]

set_option maxHeartbeats 1000000 in
theorem walk7 {w : World} {v : Value} {Zs : List (List Int)} (hv : ScriptView w v Zs) : Calls Try.prog 7 #[v] w fun e w' => Post w e w' := by
  have hmk : ∀ w, (Instr.makeSlice 34 (.int .i64 0) (.int .i64 0)).run Try.prog w = .ok (.slice (some ⟨w.heap.size, 0, none⟩) 0 0) (w.alloc (.cells #[] 9)) := fun _ => by kernel_rfl
  obtain ⟨i0, hi, hz0, hz1, hz2⟩ := info_parts Try.info9
  have h26 := bytes26_any hv
  have h24 := fits_any hv
  have h25 := copyScript_any hv
  obtain ⟨a, c, rfl, _⟩ := hv
  go_enter Try.func7, Try.ntmps7
  go_wp2_with fail
  refine h26.mono ?_
  rintro e w' ⟨b, rfl, rfl⟩
  cases b
  · go_wp2
    go_ret
    exact ⟨rfl, Below.refl _ _⟩
  go_wp2_with fail
  refine h24.mono ?_
  rintro e w'' ⟨b, rfl, rfl, hfit⟩
  cases b
  · go_wp2
    go_ret
    exact ⟨rfl, Below.refl _ _⟩
  obtain ⟨hn, hZ⟩ := hfit rfl
  have h25' := h25 (by omega) hZ
  have HF : Hid (∀ j, j < Zs.length → (Zs.getD j []).length ≤ 1048576) := hZ
  clear hfit h26 h24 h25 hZ
  go_wp2_with fail
  refine h25'.mono ?_
  rintro e w1 ⟨v', rfl, hos, hb1⟩
  obtain ⟨va, vc, ev⟩ := hos.shape
  have HO : Hid (OwnScript w1 w''.heap.size v' Zs) := hos
  have HE : Hid (v' = .slice va Zs.length vc) := ev
  have HB : Hid (Below w''.heap.size w'' w1) := hb1
  rw [ev]
  clear hos ev hb1 h25'
  have hstart := rel7_start w1 Zs
  go_wp2
  go_loopw [4, 5] (fun bv i wr => ∃ k : Nat, k ≤ Zs.length ∧ i = .int .i64 k ∧ Rel7 w1 wr Zs k bv) (fun _ i _ => Zs.length - (intOf i).toNat)
  case atStart => exact ⟨0, Nat.zero_le _, rfl, hstart⟩
  case round =>
    obtain ⟨k, hk, rfl, S, hN0, hS, hrow0, hd, hb0, hs0⟩ := hrel
    clear hstart
    by_cases hlt : k < Zs.length
    · obtain ⟨g, gc, x, ev, F⟩ := script_at HO.out hlt
      obtain ⟨rfl, rfl⟩ : va = some ⟨g, 0, none⟩ ∧ vc = gc := by
        have := HE.out; rw [ev] at this; simpa using this.symm
      obtain ⟨hcx, hrow, _⟩ := F wr hb0
      have hhl : (held (nms Zs k)).length ≤ 1048576 := by have := held_len (nms Zs k); rw [nms_len] at this; omega
      have hcall := zzPlace_any hN0 hrow hhl (HF.out k hlt)
      change Calls Try.prog 19 #[.pointer (some ⟨w1.heap.size, 0, none⟩), x] wr fun e w' => e = .returned (.tuple #[.int .i64 ((held (nms Zs k)).idxOf (nm Zs k) : Nat), .string (str (nm Zs k))]) ∧
        Names w' (Wider S wr) w1.heap.size (addName (held (nms Zs k)) (nm Zs k)) ∧ Off S wr w' at hcall
      obtain ⟨xa, xc, ex⟩ := own_slice5 hrow
      have HFF : Hid (∀ W, Below w1.heap.size w1 W → W.cell? ⟨g, k, none⟩ = some x ∧ W.ownsRow 0 5 1 x (Zs.getD k []).length ((Zs.getD k []).map (Value.int .u8)) ∧ (convert 35 9 x).run Try.prog W = .ok (.string (str (nm Zs k))) W) := F
      have HM : Hid (∀ w2, Names w2 (Wider S wr) w1.heap.size (addName (held (nms Zs k)) (nm Zs k)) → Off S wr w2 → ∃ T : Nat → Prop, Names w2 T w1.heap.size (held (nms Zs (k + 1))) ∧ (∀ j, T j → w1.heap.size ≤ j) ∧ (∀ j, T j → j < w2.heap.size) ∧ w2.ownsRow w1.heap.size 9 1 u4 (held (nms Zs k)).length (strs (held (nms Zs k))) ∧ (∀ g, u4.ownBlock = some g → ¬ T g) ∧ Below w1.heap.size w1 w2 ∧ w1.heap.size ≤ w2.heap.size) :=
        fun w2 h1 h2 => rel7_mid hs0 hS hrow0 hd hb0 h1 h2
      obtain ⟨ba, bc, eb⟩ : ∃ a c, u4 = .slice a (held (nms Zs k)).length c := by
        rcases ownsRow_shape hrow0 with ⟨hv, h0, _⟩ | ⟨g, cap, hv, _⟩
        · exact ⟨none, 0, by rw [hv, h0]⟩
        · exact ⟨_, _, hv⟩
      clear F hrow HO HE hN0 hS hrow0 hd hb0 hs0
      rw [ex] at hcx hcall
      subst eb
      generalize hq : (Zs.getD k []).length = q at hcx hcall
      go_wp2_with fail
      refine hcall.mono ?_
      rintro e w2 ⟨rfl, hN, hO⟩
      obtain ⟨T, hN2, hT, hT2, hrow2, hd2, hb2, hs2⟩ := HM.out w2 hN hO
      by_cases hin : nm Zs k ∈ held (nms Zs k)
      · -- held already
        have hp := List.idxOf_lt_length_of_mem hin
        obtain ⟨gb, rfl, hcb⟩ : ∃ gb, ba = some ⟨gb, 0, none⟩ ∧ w2.cell? ⟨gb, (held (nms Zs k)).idxOf (nm Zs k), none⟩ = some (.string (str (nm Zs k))) := by
          rcases ownsRow_shape hrow2 with ⟨_, h0, _⟩ | ⟨g, cap, hv, _, _, hc, _⟩
          · omega
          · simp only [Value.slice.injEq, true_and] at hv
            exact ⟨g, hv.1, by rw [hc _ hp]; exact strs_idxOf hin⟩
        have HG : Hid (Rel7 w1 w2 Zs (k + 1) (.slice (some ⟨gb, 0, none⟩) (held (nms Zs k)).length bc)) := ⟨T, hN2, hT, by rw [held_seen hin]; exact hrow2, hd2, hb2, hs2⟩
        have hcv : ∀ q', (convert 35 9 (.slice xa q xc)).run Try.prog (w2.drewN q') = .ok (.string (str (nm Zs k))) (w2.drewN q') := fun q' => by
          have := (HFF.out (w2.drewN q') (below_drewN' hb2 q')).2.2
          rw [ex, hq] at this; exact this
        clear hN2 hT hT2 hrow2 hd2 hb2 hs2 hN hO HM HFF hcall hcx hq ex hin
        generalize (held (nms Zs k)).idxOf (nm Zs k) = p at *
        generalize (held (nms Zs k)).length = L at *
        generalize str (nm Zs k) = s at *
        have hp' : (p : Int) < (L : Int) := by omega
        have hp0 : (0 : Int) ≤ (p : Int) := by omega
        go_wp2
        go_quiet (fail)
        go_wp2
        go_roundw
        case rel => exact ⟨k + 1, by omega, by go_num, HG.out.same rfl rfl rfl rfl⟩
        case measure => simp [intOf]; omega
      · -- a new name
        have hpl : (held (nms Zs k)).idxOf (nm Zs k) = (held (nms Zs k)).length := List.idxOf_eq_length hin
        rw [hpl]
        have hcv2 := (HFF.out w2 hb2).2.2
        rw [ex, hq] at hcv2
        have HG : Hid (∀ v' w3, w3.ownsRow w1.heap.size 9 1 v' ((held (nms Zs k)).length + 1) (strs (held (nms Zs k)) ++ [.string (str (nm Zs k))]) → (w2.alloc (.cells #[.string (str (nm Zs k))] 9)).grownBy w3 (Value.slice ba (held (nms Zs k)).length bc).ownBlock →
            (v'.ownBlock = (Value.slice ba (held (nms Zs k)).length bc).ownBlock ∨ v'.ownBlock = some (w2.heap.size + 1)) → Rel7 w1 w3 Zs (k + 1) v' ∧ (∀ q', (convert 35 9 (.slice xa q xc)).run Try.prog (w3.drewN q') = .ok (.string (str (nm Zs k))) (w3.drewN q')) ∧
              ∃ gb cb, v' = .slice (some ⟨gb, 0, none⟩) ((held (nms Zs k)).length + 1) cb ∧ w3.cell? ⟨gb, (held (nms Zs k)).length, none⟩ = some (.string (str (nm Zs k)))) := by
          intro v' w3 h1 h2 h3
          have hR : Rel7 w1 w3 Zs (k + 1) v' := rel7_new hN2 hT hT2 hd2 hb2 hs2 hrow2 (by rw [held_new hin, strs_snoc]; simpa using h1) h2 h3
          refine ⟨hR, fun q' => ?_, ?_⟩
          · have := (HFF.out (w3.drewN q') (below_drewN' (by obtain ⟨_, _, _, _, _, h, _⟩ := hR; exact h) q')).2.2
            rw [ex, hq] at this; exact this
          · rcases ownsRow_shape h1 with ⟨_, h0, _⟩ | ⟨g, cap, hv, _, _, hc, _⟩
            · omega
            · exact ⟨g, cap, hv, by rw [hc _ (by omega)]; simp [strs]⟩
        clear hN2 hT hT2 hd2 hb2 hN hO HM HFF hcall hcx hq ex hin hpl
        generalize strs (held (nms Zs k)) = xs at *
        generalize (held (nms Zs k)).length = L at *
        generalize str (nm Zs k) = s at *
        go_wp2_with (at_builtin; refine wpList_append_own_at _ rfl _ _ 34 rfl w1.heap.size 9 i0 (.string ByteArray.empty) 1 16 Try.underlying34 hi hz0 hz1 hz2 rfl (by decide) _ _ _ rfl (hrow2.alloc _) ⟨w2.heap.size, 0, none⟩ 1 1 [.string s] rfl rfl (cell_one_new _ _ _) (by intro u hu; simp at hu; subst hu; rfl) (by unfold maxLen; omega) (by omega) (by simp; omega) ?_)
        intro v2 w3 hown' hgrow' hnil' hloc'
        obtain ⟨hR, hcv, gb, cb, ev2, hcb⟩ := HG.out v2 w3 hown' hgrow' hloc'
        rw [ev2] at hR ⊢
        have HR : Hid (Rel7 w1 w3 Zs (k + 1) (.slice (some ⟨gb, 0, none⟩) (L + 1) cb)) := hR
        clear hR hown' hgrow' hnil' hloc' HG ev2 hrow2 hs2
        have hp' : (L : Int) < (L : Int) + 1 := by omega
        have hp0 : (0 : Int) ≤ (L : Int) := by omega
        go_wp2
        go_quiet (fail)
        go_wp2
        go_roundw
        case rel => exact ⟨k + 1, by omega, by go_num, HR.out.same rfl rfl rfl rfl⟩
        case measure => simp [intOf]; omega
    · go_wp2
      go_ret
      exact ⟨rfl, HB.out.trans (hb0.mono HB.out.size)⟩
end Go.Proofs.Qxb6601407a
