/-
  Seat b6601407a. The bounds that the laws ask of a script: zzScriptFits (F24), zzBytes_.. (F23, F26, F27): they only read.
-/
import Derived.Test.Qxb6601407aCopy
namespace Go.Proofs.Qxb6601407a
open Go.RowKit Go.Maps Go.Deep

theorem script_cell {w : World} {a : Option Addr} {Zs : List (List Int)} {k : Nat} (h : Zs = [] ∨ ∃ b o, a = some ⟨b, o, none⟩ ∧ ∀ i, i < Zs.length → ∃ x, w.cell? ⟨b, o + i, none⟩ = some x ∧ ByteView w x (Zs.getD i []))
    (hk : k < Zs.length) : ∃ b o xa xc, a = some ⟨b, o, none⟩ ∧ w.cell? ⟨b, o + k, none⟩ = some (.slice xa (Zs.getD k []).length xc) := by
  rcases h with rfl | ⟨b, o, ha, h⟩
  · simp at hk
  · obtain ⟨x, hx, xa, xc, ex, _⟩ := h k hk
    exact ⟨b, o, xa, xc, ha, by rw [hx, ex]⟩

/-- A bool comes back, nothing is written; where it is true the script is small. -/
def FitsPost (w : World) (Zs : List (List Int)) (e : Ending) (w' : World) : Prop :=
  ∃ b : Bool, e = .returned (.bool b) ∧ w' = w ∧ (b = true → Zs.length ≤ 65536 ∧ ∀ j, j < Zs.length → (Zs.getD j []).length ≤ 1048576)

set_option maxHeartbeats 400000 in
theorem fits_any {w : World} {v : Value} {Zs : List (List Int)} (hv : ScriptView w v Zs) :
    Calls Try.prog 24 #[v] w fun e w' => FitsPost w Zs e w' := by
  obtain ⟨a, c, rfl, h⟩ := hv
  by_cases hn : Zs.length ≤ 65536
  · have HZ : Hid (Zs = [] ∨ ∃ b o, a = some ⟨b, o, none⟩ ∧ ∀ i, i < Zs.length → ∃ x, w.cell? ⟨b, o + i, none⟩ = some x ∧ ByteView w x (Zs.getD i [])) := h
    clear h
    go_enter Try.func24, Try.ntmps24
    go_wp2
    go_loop [3, 4] (fun t i => ∃ k : Nat, k ≤ Zs.length ∧ i = .int .i64 k ∧ (∃ T : Int, t = .int .i64 T ∧ 0 ≤ T ∧ T ≤ 1572864) ∧ ∀ j, j < k → (Zs.getD j []).length ≤ 1048576) (fun _ i => Zs.length - (intOf i).toNat)
    case atStart => exact ⟨0, Nat.zero_le _, rfl, ⟨_, rfl, by omega, by omega⟩, fun j hj => by omega⟩
    case round =>
      obtain ⟨k, hk, rfl, ⟨T, rfl, hT0, hT1⟩, hall⟩ := hrel
      have HA : Hid (∀ j, j < k → (Zs.getD j []).length ≤ 1048576) := hall
      clear hall
      by_cases hlt : k < Zs.length
      · obtain ⟨b, o, xa, xc, rfl, hcx⟩ := script_cell HZ.out hlt
        obtain ⟨q, hq⟩ : ∃ q, q = (Zs.getD k []).length := ⟨_, rfl⟩
        rw [← hq] at hcx
        have HQ : Hid (q = (Zs.getD k []).length) := hq
        clear hq HZ
        by_cases hq1 : q ≤ 1048576
        · go_wp2
          · go_ret
            exact ⟨false, rfl, rfl, fun h => by cases h⟩
          · go_round
            case rel => exact ⟨k + 1, by omega, by go_num, ⟨_, rfl, by omega, by omega⟩, fun j hj => by
              by_cases e : j = k
              · rw [e, ← HQ.out]; exact hq1
              · exact HA.out j (by omega)⟩
            case measure => simp [intOf]; omega
        · go_wp2
          go_ret
          exact ⟨false, rfl, rfl, fun h => by cases h⟩
      · go_wp2
        go_ret
        exact ⟨_, rfl, rfl, fun _ => ⟨hn, fun j hj => HA.out j (by omega)⟩⟩
  · go_enter Try.func24, Try.ntmps24
    go_wp2
    go_ret
    exact ⟨false, rfl, rfl, fun h => by cases h⟩

/-- A bool comes back, nothing is written. -/
def JustBool (w : World) (e : Ending) (w' : World) : Prop := ∃ b : Bool, e = .returned (.bool b) ∧ w' = w

set_option maxHeartbeats 400000 in
theorem bytes23_any {w : World} {v : Value} {Zs : List (List Int)} (hv : ScriptView w v Zs) : Calls Try.prog 23 #[v] w fun e w' => JustBool w e w' := by
  obtain ⟨a, c, rfl, h⟩ := hv
  by_cases hn : Zs.length ≤ 1048576
  · have HZ : Hid (Zs = [] ∨ ∃ b o, a = some ⟨b, o, none⟩ ∧ ∀ i, i < Zs.length → ∃ x, w.cell? ⟨b, o + i, none⟩ = some x ∧ ByteView w x (Zs.getD i [])) := h
    clear h
    go_enter Try.func23, Try.ntmps23
    go_wp2
    go_loop [3, 4] (fun t i => ∃ k : Nat, k ≤ Zs.length ∧ i = .int .i64 k ∧ ∃ T : Int, t = .int .i64 T ∧ 0 ≤ T ∧ T ≤ 1048576) (fun _ i => Zs.length - (intOf i).toNat)
    case atStart => exact ⟨0, Nat.zero_le _, rfl, _, rfl, by omega, by omega⟩
    case round =>
      obtain ⟨k, hk, rfl, T, rfl, hT0, hT1⟩ := hrel
      by_cases hlt : k < Zs.length
      · obtain ⟨b, o, xa, xc, rfl, hcx⟩ := script_cell HZ.out hlt
        generalize (Zs.getD k []).length = q at hcx
        clear HZ
        by_cases hq1 : q ≤ 1048576
        · go_wp2
          · go_ret
            exact ⟨_, rfl, rfl⟩
          · go_round
            case rel => exact ⟨k + 1, by omega, by go_num, _, rfl, by omega, by omega⟩
            case measure => simp [intOf]; omega
        · go_wp2
          go_ret
          exact ⟨_, rfl, rfl⟩
      · go_wp2
        go_ret
        exact ⟨_, rfl, rfl⟩
  · go_enter Try.func23, Try.ntmps23
    go_wp2
    go_ret
    exact ⟨_, rfl, rfl⟩

set_option maxHeartbeats 400000 in
theorem bytes26_any {w : World} {v : Value} {Zs : List (List Int)} (hv : ScriptView w v Zs) : Calls Try.prog 26 #[v] w fun e w' => JustBool w e w' := by
  obtain ⟨a, c, rfl, h⟩ := hv
  by_cases hn : Zs.length ≤ 1048576
  · have HZ : Hid (Zs = [] ∨ ∃ b o, a = some ⟨b, o, none⟩ ∧ ∀ i, i < Zs.length → ∃ x, w.cell? ⟨b, o + i, none⟩ = some x ∧ ByteView w x (Zs.getD i [])) := h
    clear h
    go_enter Try.func26, Try.ntmps26
    go_wp2
    go_loop [3, 4] (fun t i => ∃ k : Nat, k ≤ Zs.length ∧ i = .int .i64 k ∧ ∃ T : Int, t = .int .i64 T ∧ 0 ≤ T ∧ T ≤ 1048576) (fun _ i => Zs.length - (intOf i).toNat)
    case atStart => exact ⟨0, Nat.zero_le _, rfl, _, rfl, by omega, by omega⟩
    case round =>
      obtain ⟨k, hk, rfl, T, rfl, hT0, hT1⟩ := hrel
      by_cases hlt : k < Zs.length
      · obtain ⟨b, o, xa, xc, rfl, hcx⟩ := script_cell HZ.out hlt
        generalize (Zs.getD k []).length = q at hcx
        clear HZ
        by_cases hq1 : q ≤ 1048576
        · go_wp2
          · go_ret
            exact ⟨_, rfl, rfl⟩
          · go_round
            case rel => exact ⟨k + 1, by omega, by go_num, _, rfl, by omega, by omega⟩
            case measure => simp [intOf]; omega
        · go_wp2
          go_ret
          exact ⟨_, rfl, rfl⟩
      · go_wp2
        go_ret
        exact ⟨_, rfl, rfl⟩
  · go_enter Try.func26, Try.ntmps26
    go_wp2
    go_ret
    exact ⟨_, rfl, rfl⟩

set_option maxHeartbeats 400000 in
theorem bytes27_any {w : World} {v : Value} {Zs : List (List Int)} (hv : ScriptView w v Zs) : Calls Try.prog 27 #[v] w fun e w' => JustBool w e w' := by
  obtain ⟨a, c, rfl, h⟩ := hv
  by_cases hn : Zs.length ≤ 1048576
  · have HZ : Hid (Zs = [] ∨ ∃ b o, a = some ⟨b, o, none⟩ ∧ ∀ i, i < Zs.length → ∃ x, w.cell? ⟨b, o + i, none⟩ = some x ∧ ByteView w x (Zs.getD i [])) := h
    clear h
    go_enter Try.func27, Try.ntmps27
    go_wp2
    go_loop [3, 4] (fun t i => ∃ k : Nat, k ≤ Zs.length ∧ i = .int .i64 k ∧ ∃ T : Int, t = .int .i64 T ∧ 0 ≤ T ∧ T ≤ 1048576) (fun _ i => Zs.length - (intOf i).toNat)
    case atStart => exact ⟨0, Nat.zero_le _, rfl, _, rfl, by omega, by omega⟩
    case round =>
      obtain ⟨k, hk, rfl, T, rfl, hT0, hT1⟩ := hrel
      by_cases hlt : k < Zs.length
      · obtain ⟨b, o, xa, xc, rfl, hcx⟩ := script_cell HZ.out hlt
        generalize (Zs.getD k []).length = q at hcx
        clear HZ
        by_cases hq1 : q ≤ 1048576
        · go_wp2
          · go_ret
            exact ⟨_, rfl, rfl⟩
          · go_round
            case rel => exact ⟨k + 1, by omega, by go_num, _, rfl, by omega, by omega⟩
            case measure => simp [intOf]; omega
        · go_wp2
          go_ret
          exact ⟨_, rfl, rfl⟩
      · go_wp2
        go_ret
        exact ⟨_, rfl, rfl⟩
  · go_enter Try.func27, Try.ntmps27
    go_wp2
    go_ret
    exact ⟨_, rfl, rfl⟩
end Go.Proofs.Qxb6601407a
