/-
  Seat b6601407a. FnNamesPlaceKeepsNoHoldOnTheBuffer (F8): the walk.
-/
import Derived.Test.Qxb6601407aScript
import Derived.Laws.AppendOwnNone
namespace Go.Proofs.Qxb6601407a
open Go.RowKit Go.Maps Go.Deep

/-- Two 'names' (blocks B and B + 1, B the heap's size in w1) that hold l1 and l2, and a buffer v, in memory apart. -/
def Two (w1 w : World) (l1 l2 : List (List UInt8)) (v : Value) : Prop :=
  ∃ S1 S2 : Nat → Prop, Names w S1 w1.heap.size l1 ∧ Names w S2 (w1.heap.size + 1) l2 ∧ (∀ j, S1 j → w1.heap.size ≤ j ∧ j < w.heap.size) ∧ (∀ j, S2 j → w1.heap.size ≤ j ∧ j < w.heap.size) ∧ (∀ j, S1 j → ¬ S2 j) ∧
    (∃ n xs, w.ownsRow w1.heap.size 5 1 v n xs) ∧ (∀ g, v.ownBlock = some g → ¬ S1 g ∧ ¬ S2 g) ∧ Below w1.heap.size w1 w ∧ w1.heap.size ≤ w.heap.size

theorem two_start (w1 : World) : Two w1 ((w1.alloc (.cells #[.map none, .slice none 0 0] 52)).alloc (.cells #[.map none, .slice none 0 0] 52)) [] [] (.slice none 0 0) := by
  have h1 := Names.fresh w1 (fun j => j = w1.heap.size) rfl
  have h2 := Names.fresh (w1.alloc (.cells #[.map none, .slice none 0 0] 52)) (fun j => j = w1.heap.size + 1) (by simp)
  simp only [World.size_alloc] at h2
  refine ⟨fun j => j = w1.heap.size, fun j => j = w1.heap.size + 1, h1.off ((Off.refl (fun _ => False) _).alloc _) (fun _ _ _ h => h), h2, fun j hj => ⟨by omega, by simp; omega⟩, fun j hj => ⟨by omega, by simp; omega⟩, fun j hj => by omega,
    ⟨0, [], World.ownsRow_nil _ _ _ _⟩, fun g hg => by simp [Value.ownBlock] at hg, ((Below.refl _ _).alloc (Nat.le_refl _) _).alloc (by simp) _, by simp; omega⟩

theorem Two.below {w1 w : World} {l1 l2 : List (List UInt8)} {v : Value} (h : Two w1 w l1 l2 v) : Below w1.heap.size w1 w := by
  obtain ⟨_, _, _, _, _, _, _, _, _, h, _⟩ := h; exact h

/-- Behind the append onto the buffer. -/
theorem two_append {w1 w w' : World} {l1 l2 : List (List UInt8)} {v v' : Value} {n : Nat} {xs : List Value} (h : Two w1 w l1 l2 v) (hr : w'.ownsRow w1.heap.size 5 1 v' n xs) (hg : w.grownBy w' v.ownBlock)
    (hloc : v'.ownBlock = v.ownBlock ∨ v'.ownBlock = some w.heap.size) : Two w1 w' l1 l2 v' := by
  obtain ⟨S1, S2, h1, h2, b1, b2, hd, ⟨n0, xs0, hr0⟩, hv, hb, hs⟩ := h
  have ho : Off (fun j => v.ownBlock = some j) w w' := Off.of_grown hg (fun j e => e)
  refine ⟨S1, S2, h1.off ho (fun j _ hj e => (hv j e).1 hj), h2.off ho (fun j _ hj e => (hv j e).2 hj), fun j hj => ⟨(b1 j hj).1, Nat.lt_of_lt_of_le (b1 j hj).2 hg.size⟩, fun j hj => ⟨(b2 j hj).1, Nat.lt_of_lt_of_le (b2 j hj).2 hg.size⟩, hd, ⟨n, xs, hr⟩, ?_, ?_, Nat.le_trans hs hg.size⟩
  · intro g hg'
    rcases hloc with e | e
    · exact hv g (e ▸ hg')
    · rw [e] at hg'
      simp only [Option.some.injEq] at hg'
      exact ⟨fun hj => by have := (b1 g hj).2; omega, fun hj => by have := (b2 g hj).2; omega⟩
  · exact hb.trans (ho.below hs (fun j hj e => by have := (hr0.lt j e).1; omega))

/-- Behind a store into the buffer. -/
theorem two_store {w1 w : World} {l1 l2 : List (List UInt8)} {g n c j : Nat} (h : Two w1 w l1 l2 (.slice (some ⟨g, 0, none⟩) n c)) (hj : j < n) (u : Value) :
    Two w1 (w.setCell ⟨g, j, none⟩ u) l1 l2 (.slice (some ⟨g, 0, none⟩) n c) ∧ (∃ x, w.cell? ⟨g, j, none⟩ = some x) ∧ w.frozen? ⟨g, j, none⟩ = false := by
  have h' := h
  obtain ⟨S1, S2, _, _, _, _, _, ⟨n0, xs0, hr0⟩, _⟩ := h
  obtain rfl : n = n0 := by
    rcases hr0.2 with ⟨e, _⟩ | ⟨_, _, _, e, _⟩
    · simp at e
    · simp at e; exact e.2.1
  have hlen := ownsRow_len hr0
  have hst := hr0.stored j u
  refine ⟨two_append h' hst.1 (by simpa [Value.ownBlock] using hst.2) (Or.inl rfl), ⟨xs0[j], ?_⟩, hr0.frozenAt j⟩
  rw [hr0.cellAt j (by omega), List.getElem?_eq_getElem]

/-- The buffer cut to no byte is owned. -/
theorem two_cut {w1 w : World} {l1 l2 : List (List UInt8)} {v : Value} (h : Two w1 w l1 l2 v) : (v = .slice none 0 0 ∨ ∃ g n c, v = .slice (some ⟨g, 0, none⟩) n c ∧ w.ownsRow w1.heap.size 5 1 (.slice (some ⟨g, 0, none⟩) 0 c) 0 []) := by
  obtain ⟨S1, S2, _, _, _, _, _, ⟨n0, xs0, hr0⟩, _⟩ := h
  rcases hr0.2 with ⟨e, _⟩ | ⟨g, cap, cur, e, hg, hh, hn, hc, hs, ht⟩
  · exact Or.inl e
  · exact Or.inr ⟨g, n0, cap, e, by simp, Or.inr ⟨g, cap, cur, rfl, hg, hh, Nat.zero_le _, hc, hs, by simp⟩⟩

theorem two_cut_two {w1 w : World} {l1 l2 : List (List UInt8)} {g n c : Nat} (h : Two w1 w l1 l2 (.slice (some ⟨g, 0, none⟩) n c)) : Two w1 w l1 l2 (.slice (some ⟨g, 0, none⟩) 0 c) := by
  have h' := h
  rcases two_cut h with e | ⟨g', n', c', e, hr⟩
  · simp at e
  · simp only [Value.slice.injEq, Option.some.injEq, Addr.mk.injEq, and_true] at e
    obtain ⟨rfl, _, rfl⟩ := e
    exact two_append h' hr (World.grownBy.refl _ _) (Or.inl rfl)

/-- files.ZZNamesPlace on the first of the two. -/
theorem fed_call {w1 w : World} {l1 l2 : List (List UInt8)} {v nv : Value} {zs : List Int} (h : Two w1 w l1 l2 v) (hname : w.ownsRow 0 5 1 nv zs.length (zs.map (Value.int .u8))) (hl : l1.length ≤ 1048576) (hz : zs.length ≤ 1048576) :
    Calls Try.prog 19 #[.pointer (some ⟨w1.heap.size, 0, none⟩), nv] w fun e w' => e = .returned (.tuple #[.int .i64 (l1.idxOf (bytesOf zs) : Nat), .string (str (bytesOf zs))]) ∧ Two w1 w' (addName l1 (bytesOf zs)) l2 v := by
  obtain ⟨S1, S2, h1, h2, b1, b2, hd, ⟨n0, xs0, hr0⟩, hv, hb, hs⟩ := h
  refine (zzPlace_any h1 hname hl hz).mono fun e w' ⟨he, hN, ho⟩ => ⟨he, ?_⟩
  have hsz := ho.size
  refine ⟨fun j => Wider S1 w j ∧ j < w'.heap.size, S2, hN.mono (fun j hj hh => ⟨hh, hj⟩), h2.off ho (fun j _ hj e => hd j e hj), ?_, fun j hj => ⟨(b2 j hj).1, Nat.lt_of_lt_of_le (b2 j hj).2 hsz⟩, ?_, ⟨n0, xs0, ho.ownsRow hr0 (fun g hg => (hv g hg).1)⟩, ?_, hb.trans (ho.below hs (fun j hj e => by have := (b1 j e).1; omega)), Nat.le_trans hs hsz⟩
  · rintro j ⟨hj | hj, hj2⟩
    · exact ⟨(b1 j hj).1, hj2⟩
    · exact ⟨by omega, hj2⟩
  · rintro j ⟨hj | hj, _⟩ hj2
    · exact hd j hj hj2
    · have := (b2 j hj2).2; omega
  · intro g hg
    refine ⟨?_, (hv g hg).2⟩
    rintro ⟨hj | hj, _⟩
    · exact (hv g hg).1 hj
    · have := (hr0.lt g hg).2; omega

/-- .. and on the second. -/
theorem direct_call {w1 w : World} {l1 l2 : List (List UInt8)} {v nv : Value} {zs : List Int} (h : Two w1 w l1 l2 v) (hname : w.ownsRow 0 5 1 nv zs.length (zs.map (Value.int .u8))) (hl : l2.length ≤ 1048576) (hz : zs.length ≤ 1048576) :
    Calls Try.prog 19 #[.pointer (some ⟨w1.heap.size + 1, 0, none⟩), nv] w fun e w' => e = .returned (.tuple #[.int .i64 (l2.idxOf (bytesOf zs) : Nat), .string (str (bytesOf zs))]) ∧ Two w1 w' l1 (addName l2 (bytesOf zs)) v := by
  obtain ⟨S1, S2, h1, h2, b1, b2, hd, ⟨n0, xs0, hr0⟩, hv, hb, hs⟩ := h
  refine (zzPlace_any h2 hname hl hz).mono fun e w' ⟨he, hN, ho⟩ => ⟨he, ?_⟩
  have hsz := ho.size
  refine ⟨S1, fun j => Wider S2 w j ∧ j < w'.heap.size, h1.off ho (fun j _ hj e => hd j hj e), hN.mono (fun j hj hh => ⟨hh, hj⟩), fun j hj => ⟨(b1 j hj).1, Nat.lt_of_lt_of_le (b1 j hj).2 hsz⟩, ?_, ?_, ⟨n0, xs0, ho.ownsRow hr0 (fun g hg => (hv g hg).2)⟩, ?_, hb.trans (ho.below hs (fun j hj e => by have := (b2 j e).1; omega)), Nat.le_trans hs hsz⟩
  · rintro j ⟨hj | hj, hj2⟩
    · exact ⟨(b2 j hj).1, hj2⟩
    · exact ⟨by omega, hj2⟩
  · rintro j hj2 ⟨hj | hj, _⟩
    · exact hd j hj2 hj
    · have := (b1 j hj2).2; omega
  · intro g hg
    refine ⟨(hv g hg).1, ?_⟩
    rintro ⟨hj | hj, _⟩
    · exact (hv g hg).2 hj
    · have := (hr0.lt g hg).2; omega

theorem cut_zero (ba : Option Addr) (n bc : Nat) (hb : ba = none ∨ ∃ g, ba = some ⟨g, 0, none⟩) (w : World) : (Instr.slice 35 (.slice ba n bc) none (some (.int .i64 0)) none).run Try.prog w = .ok (.slice ba 0 bc) w := by
  have hz : (sizeOf 5).run Try.prog w = .ok 1 w := by kernel_rfl
  have he : Try.prog.elem 35 = 5 := by simp [Program.elem, Try.underlying35]
  rw [run_slice_h (P := Try.prog) w 35 ba n bc (by rw [he]; exact Try.underlying35) .i64 0 (by omega) (by omega), he, hz]
  rcases hb with rfl | ⟨g, rfl⟩ <;> simp [sliced, Result.andThen, Addr.add]

/-- 'append(s, x...)', both the call's own; x may be nil. -/
theorem wpList_append_src {w : World} {ops : Array Oper} {rest : List Oper} {o : Oper} {a : Act} {Q : Exit → Act → World → Prop} (hgd : o.guard = none) (s x : Operand)
    (ho : o.op = .call { callee := .builtin .append, args := #[s, x], argTypes := #[35, 35] }) (base : Nat) (v : Value) (n : Nat) (xs : List Value) (hs : a.eval s = v) (hown : w.ownsRow base 5 1 v n xs)
    (xv : Value) (zs : List Int) (hx : a.eval x = xv) (hsrc : w.ownsRow 0 5 1 xv zs.length (zs.map (Value.int .u8))) (hn : n + zs.length ≤ 1048576) (hbase : base ≤ w.heap.size)
    (h : ∀ v' w', w'.ownsRow base 5 1 v' (n + zs.length) (xs ++ zs.map (Value.int .u8)) → w.grownBy w' v.ownBlock → (v'.ownBlock = v.ownBlock ∨ v'.ownBlock = some w.heap.size) → wpList Try.prog ops Q rest (a.put o.dst v') w') :
    wpList Try.prog ops Q (o :: rest) a w := by
  obtain ⟨i0, hi, hz0, hz1, hz2⟩ := info_parts Try.info5
  rcases ownsRow_shape hsrc with ⟨rfl, h0, _⟩ | ⟨g, cap, rfl, _, _, hc, _⟩
  · obtain rfl : zs = [] := List.length_eq_zero_iff.1 h0
    refine wpList_append_own_none hgd s x 35 ho base 5 i0 1 Try.underlying35 hi v n xs hs hown hx ?_
    exact h v w (by simpa using hown) (World.grownBy.refl _ _) (Or.inl rfl)
  · refine wpList_append_own_at w hgd s x 35 ho base 5 i0 (.int .u8 0) 1 1 Try.underlying35 hi hz0 hz1 hz2 rfl (by decide) v n xs hs hown ⟨g, 0, none⟩ zs.length cap (zs.map (Value.int .u8)) hx (by simp) ?_ (ints_oneCell .u8 zs) (by unfold maxLen; omega) (by omega) hbase ?_
    · intro j u hj
      have hjl : j < zs.length := by
        rcases Nat.lt_or_ge j zs.length with h | h
        · exact h
        · rw [List.getElem?_eq_none (by simpa using h)] at hj; cases hj
      rw [show (⟨g, 0, none⟩ : Addr).add j = ⟨g, j, none⟩ from by unfold Addr.add; split <;> simp_all, hc j hjl]; exact hj
    · intro v' w' h1 h2 _ h4
      exact h v' w' h1 h2 h4

theorem two_shape {w1 w : World} {l1 l2 : List (List UInt8)} {v : Value} (h : Two w1 w l1 l2 v) : ∃ ba n bc, v = .slice ba n bc ∧ (ba = none ∨ ∃ g, ba = some ⟨g, 0, none⟩) ∧ w.ownsRow w1.heap.size 5 1 (.slice ba 0 bc) 0 [] := by
  rcases two_cut h with rfl | ⟨g, n, c, rfl, hr⟩
  · exact ⟨none, 0, 0, rfl, Or.inl rfl, World.ownsRow_nil _ _ _ _⟩
  · exact ⟨_, n, c, rfl, Or.inr ⟨g, rfl⟩, hr⟩

theorem own_block_cut (ba : Option Addr) (n m bc : Nat) : (Value.slice ba n bc).ownBlock = (Value.slice ba m bc).ownBlock := by cases ba <;> rfl

set_option maxHeartbeats 1000000 in
theorem walk8 {w : World} {v : Value} {Zs : List (List Int)} (hv : ScriptView w v Zs) : Calls Try.prog 8 #[v] w fun e w' => Post w e w' := by
  obtain ⟨i0, hi, hz0, hz1, hz2⟩ := info_parts Try.info5
  have h27 := bytes27_any hv
  have h24 := fits_any hv
  have h25 := copyScript_any hv
  obtain ⟨a, c, rfl, _⟩ := hv
  go_enter Try.func8, Try.ntmps8
  go_wp2_with fail
  refine h27.mono ?_
  rintro e w' ⟨b, rfl, rfl⟩
  cases b
  · go_wp2
    go_ret
    exact ⟨rfl, Below.refl _ _⟩
  go_wp2_with fail
  refine h24.mono ?_
  rintro e w'' ⟨b, rfl, rfl, hfit⟩
  cases b
  · go_wp2
    go_ret
    exact ⟨rfl, Below.refl _ _⟩
  obtain ⟨hn, hZ⟩ := hfit rfl
  have h25' := h25 (by omega) hZ
  have HF : Hid (∀ j, j < Zs.length → (Zs.getD j []).length ≤ 1048576) := hZ
  clear hfit h27 h24 h25 hZ
  go_wp2_with fail
  refine h25'.mono ?_
  rintro e w1 ⟨v', rfl, hos, hb1⟩
  obtain ⟨va, vc, ev⟩ := hos.shape
  have HO : Hid (OwnScript w1 w''.heap.size v' Zs) := hos
  have HE : Hid (v' = .slice va Zs.length vc) := ev
  have HB : Hid (Below w''.heap.size w'' w1) := hb1
  rw [ev]
  clear hos ev hb1 h25'
  have hstart := two_start w1
  go_wp2
  go_loopw [5, 6] (fun bv i wr => ∃ k : Nat, k ≤ Zs.length ∧ i = .int .i64 k ∧ Two w1 wr (held (nms Zs k)) (held (nms Zs k)) bv) (fun _ i _ => Zs.length - (intOf i).toNat)
  case atStart => exact ⟨0, Nat.zero_le _, rfl, hstart⟩
  case round =>
    obtain ⟨k, hk, rfl, hT⟩ := hrel
    clear hstart
    by_cases hlt : k < Zs.length
    · obtain ⟨g, gc, x, ev, F⟩ := script_at HO.out hlt
      obtain ⟨rfl, rfl⟩ : va = some ⟨g, 0, none⟩ ∧ vc = gc := by
        have := HE.out; rw [ev] at this; simpa using this.symm
      obtain ⟨hcx, hrow, _⟩ := F wr hT.below
      have hhl : (held (nms Zs k)).length ≤ 1048576 := by have := held_len (nms Zs k); rw [nms_len] at this; omega
      have hzl := HF.out k hlt
      have hnl := nm_len HF.out hlt
      obtain ⟨xa, xc, ex⟩ := own_slice5 hrow
      obtain ⟨ba, bn, bc, rfl, hba, hcut⟩ := two_shape hT
      have hsl := cut_zero ba bn bc hba
      have HA : Hid (∀ v' w2, w2.ownsRow w1.heap.size 5 1 v' (Zs.getD k []).length ((Zs.getD k []).map (Value.int .u8)) → wr.grownBy w2 (Value.slice ba 0 bc).ownBlock → (v'.ownBlock = (Value.slice ba 0 bc).ownBlock ∨ v'.ownBlock = some wr.heap.size) →
          Two w1 w2 (held (nms Zs k)) (held (nms Zs k)) v' ∧ w2.ownsRow 0 5 1 v' (Zs.getD k []).length ((Zs.getD k []).map (Value.int .u8))) := by
        intro v' w2 h1 h2 h3
        rw [own_block_cut ba 0 bn bc] at h2 h3
        exact ⟨two_append hT h1 h2 h3, row_base0 h1⟩
      have HFF : Hid (∀ W, Below w1.heap.size w1 W → W.cell? ⟨g, k, none⟩ = some x ∧ W.ownsRow 0 5 1 x (Zs.getD k []).length ((Zs.getD k []).map (Value.int .u8)) ∧ (convert 35 9 x).run Try.prog W = .ok (.string (str (nm Zs k))) W) := F
      have hws : w1.heap.size ≤ wr.heap.size := by obtain ⟨_, _, _, _, _, _, _, _, _, _, h⟩ := hT; exact h
      have HNM : Hid (nm Zs k = bytesOf (Zs.getD k [])) := rfl
      clear F HO HE hT
      rw [ex] at hcx hrow
      generalize hzs : Zs.getD k [] = zs at *
      clear hzs
      go_wp2_with (at_builtin; refine wpList_append_src rfl _ _ rfl w1.heap.size _ _ _ rfl hcut _ zs rfl hrow (by omega) hws ?_)
      intro v2 w2 hown2 hgrow2 hloc2
      obtain ⟨hT2, hrow2⟩ := HA.out v2 w2 hown2 hgrow2 hloc2
      clear HA hown2 hgrow2 hloc2 hcut hsl hrow hws
      obtain ⟨a2, c2, ev2⟩ := own_slice5 hrow2
      have hcall1 := fed_call hT2 hrow2 hhl hzl
      rw [← HNM.out] at hcall1
      rw [ev2] at hcall1 ⊢
      have HX2 : Hid (∀ wi, Two w1 wi (addName (held (nms Zs k)) (nm Zs k)) (held (nms Zs k)) (.slice a2 zs.length c2) → 0 < zs.length → ∃ gb gx, a2 = some ⟨gb, 0, none⟩ ∧ xa = some ⟨gx, 0, none⟩ ∧ ∀ j, j < zs.length → wi.cell? ⟨gx, j, none⟩ = some (.int .u8 (zs.getD j 0))) := by
        intro wi hTi hpos
        have hsh := (HFF.out wi hTi.below).2.1
        rw [ex] at hsh
        rw [ev2] at hrow2
        rcases ownsRow_shape hrow2 with ⟨_, h0, _⟩ | ⟨gb, _, e1, _⟩
        · omega
        rcases ownsRow_shape hsh with ⟨_, h0, _⟩ | ⟨gx, _, e2, _, _, hc, _⟩
        · omega
        simp only [Value.slice.injEq, true_and] at e1 e2
        refine ⟨gb, gx, e1.1, e2.1, fun j hj => ?_⟩
        rw [hc j hj]
        simp [List.getElem?_eq_getElem hj, List.getD]
      clear hT2 hrow2
      go_wp2_with fail
      refine hcall1.mono ?_
      rintro e w3 ⟨rfl, hT3⟩
      obtain ⟨wo, rfl⟩ : ∃ wo : World, wo = wr := ⟨_, rfl⟩
      clear hcall1
      go_wp2
      go_loopw [10] (fun i wi => ∃ j : Nat, j ≤ zs.length ∧ i = .int .i64 j ∧ Two w1 wi (addName (held (nms Zs k)) (nm Zs k)) (held (nms Zs k)) (.slice a2 zs.length c2)) (fun i _ => zs.length - (intOf i).toNat)
      case atStart => exact ⟨0, Nat.zero_le _, rfl, hT3⟩
      case round =>
        obtain ⟨j, hj, rfl, hTi⟩ := hrel
        clear hT3
        by_cases hjl : j < zs.length
        · obtain ⟨gb, gx, rfl, rfl, hcz⟩ := HX2.out wr hTi (by omega)
          have hczj := hcz j hjl
          have HS : Hid (∀ u, Two w1 (wr.setCell ⟨gb, j, none⟩ u) (addName (held (nms Zs k)) (nm Zs k)) (held (nms Zs k)) (.slice (some ⟨gb, 0, none⟩) zs.length c2)) := fun u => (two_store hTi hjl u).1
          obtain ⟨_, ⟨y, hcy⟩, hfy⟩ := two_store hTi hjl (.int .u8 0)
          clear hcz hTi HX2
          generalize zs.getD j 0 = z at *
          go_wp2
          go_roundw
          case rel => exact ⟨j + 1, by omega, by go_num, HS.out _⟩
          case measure => simp [intOf]; omega
        · have hname := (HFF.out wr hTi.below).2.1
          have hcall2 := direct_call hTi hname hhl hzl
          rw [ex, ← HNM.out] at hcall2
          clear hname hTi HX2
          go_wp2_with fail
          refine hcall2.mono ?_
          rintro e w5 ⟨rfl, hT5⟩
          have hcv := (HFF.out w5 hT5.below).2.2
          rw [ex] at hcv
          have HT : Hid (Two w1 w5 (held (nms Zs (k + 1))) (held (nms Zs (k + 1))) (.slice a2 zs.length c2)) := by
            rw [nms_succ, held_snoc]; exact hT5
          clear hT5 hcall2 HFF
          generalize (held (nms Zs k)).idxOf (nm Zs k) = p at *
          generalize str (nm Zs k) = s at *
          go_wp2
          go_roundw
          case rel => exact ⟨k + 1, by omega, by go_num, HT.out⟩
          case measure => simp [intOf]; omega
    · go_wp2
      go_ret
      exact ⟨rfl, HB.out.trans (hT.below.mono HB.out.size)⟩
end Go.Proofs.Qxb6601407a
