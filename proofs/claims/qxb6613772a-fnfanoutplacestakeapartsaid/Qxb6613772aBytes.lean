import Derived.Test.Qxb6613772aSmall
namespace Go.Proofs.Qxb6613772a
open Go.RowKit
set_option linter.unusedVariables false

def SomeBool (e : Ending) : Prop := ∃ b, e = .returned (.bool b)
set_option maxHeartbeats 1000000 in
theorem bytes7 (w : World) (r0 : Option Nat) (v0 : Value) (hs0 : List Value) (L0 : List (List Int)) (r1 : Option Nat) (v1 : Value) (hs1 : List Value) (L1 : List (List Int)) (r3 : Option Nat) (v3 : Value) (hs3 : List Value) (L3 : List (List Int)) (x2 : Int) (h0 : Lies w r0 v0 hs0) (m0 : MsgsAt w hs0 L0) (h1 : Lies w r1 v1 hs1) (m1 : MsgsAt w hs1 L1) (h3 : Lies w r3 v3 hs3) (m3 : MsgsAt w hs3 L3) :
    Calls Try.prog 7 #[v0, v1, .int .i64 x2, v3] w fun e w' => SomeBool e ∧ w' = w := by
  obtain ⟨a0, c0, rfl, hc0⟩ := h0.open
  have HC0 := hid hc0
  have HL0 := hid m0.1
  clear hc0 h0
  obtain ⟨a1, c1, rfl, hc1⟩ := h1.open
  have HC1 := hid hc1
  have HL1 := hid m1.1
  clear hc1 h1
  obtain ⟨a3, c3, rfl, hc3⟩ := h3.open
  have HC3 := hid hc3
  have HL3 := hid m3.1
  clear hc3 h3
  by_cases g0 : (hs0.length : Int) ≤ 1048576
  rotate_left
  · go_enter Try.func7, Try.ntmps7
    go_wp2
    go_ret
    exact ⟨⟨false, rfl⟩, rfl⟩
  go_enter Try.func7, Try.ntmps7
  go_wp2
  go_loop [9, 10] (fun z j => ∃ (k : Nat) (u : Int), k ≤ hs0.length ∧ j = .int .i64 k ∧ z = .int .i64 u ∧ 0 ≤ u ∧ u ≤ 1048576) (fun _ j => hs0.length - (intOf j).toNat)
  case atStart => exact ⟨0, _, by omega, rfl, rfl, by omega, by omega⟩
  case round =>
    obtain ⟨k, u, hk, rfl, rfl, hu0, hu1⟩ := hrel
    by_cases hlt : k < hs0.length
    · have hkL : k < L0.length := by rw [← HL0.out]; exact hlt
      obtain ⟨b1, o1, rfl, hc1⟩ : ∃ b o, a0 = some ⟨b, o, none⟩ ∧ ∀ i (hi : i < hs0.length), w.cell? ⟨b, o + i, none⟩ = some hs0[i] := by
        rcases HC0.out with h | h
        · omega
        · exact h
      have g1 := hc1 k hlt
      have mm := m0.get k hlt hkL
      obtain ⟨x1, y1, e1, _⟩ := mm.open
      rw [e1] at g1
      clear hc1 e1 mm
      have i1 : (k : Int) < (hs0.length : Int) := by omega
      by_cases q1 : (L0[k].length : Int) ≤ 1048576
      · by_cases q2 : u + (L0[k].length : Int) ≤ 1048576
        · go_wp2
          go_round
          case rel => exact ⟨k + 1, _, by omega, by go_num, rfl, by omega, by omega⟩
          case measure => simp [intOf]; omega
        · go_wp2
          go_ret
          exact ⟨⟨false, rfl⟩, rfl⟩
      · go_wp2
        go_ret
        exact ⟨⟨false, rfl⟩, rfl⟩
    by_cases g1 : (hs1.length : Int) ≤ 1048576
    rotate_left
    · go_wp2
      go_ret
      exact ⟨⟨false, rfl⟩, rfl⟩
    by_cases gg1 : u + (hs1.length : Int) ≤ 1048576
    rotate_left
    · go_wp2
      go_ret
      exact ⟨⟨false, rfl⟩, rfl⟩
    go_wp2
    go_loop [9, 11] (fun z j => ∃ (k : Nat) (u : Int), k ≤ hs1.length ∧ j = .int .i64 k ∧ z = .int .i64 u ∧ 0 ≤ u ∧ u ≤ 1048576) (fun _ j => hs1.length - (intOf j).toNat)
    case atStart => exact ⟨0, _, by omega, rfl, rfl, by omega, by omega⟩
    case round =>
      obtain ⟨k, u, hk, rfl, rfl, hu0, hu1⟩ := hrel
      by_cases hlt : k < hs1.length
      · have hkL : k < L1.length := by rw [← HL1.out]; exact hlt
        obtain ⟨b1, o1, rfl, hc1⟩ : ∃ b o, a1 = some ⟨b, o, none⟩ ∧ ∀ i (hi : i < hs1.length), w.cell? ⟨b, o + i, none⟩ = some hs1[i] := by
          rcases HC1.out with h | h
          · omega
          · exact h
        have g1 := hc1 k hlt
        have mm := m1.get k hlt hkL
        obtain ⟨x1, y1, e1, _⟩ := mm.open
        rw [e1] at g1
        clear hc1 e1 mm
        have i1 : (k : Int) < (hs1.length : Int) := by omega
        by_cases q1 : (L1[k].length : Int) ≤ 1048576
        · by_cases q2 : u + (L1[k].length : Int) ≤ 1048576
          · go_wp2
            go_round
            case rel => exact ⟨k + 1, _, by omega, by go_num, rfl, by omega, by omega⟩
            case measure => simp [intOf]; omega
          · go_wp2
            go_ret
            exact ⟨⟨false, rfl⟩, rfl⟩
        · go_wp2
          go_ret
          exact ⟨⟨false, rfl⟩, rfl⟩
      by_cases g3 : (hs3.length : Int) ≤ 1048576
      rotate_left
      · go_wp2
        go_ret
        exact ⟨⟨false, rfl⟩, rfl⟩
      by_cases gg3 : u + (hs3.length : Int) ≤ 1048576
      rotate_left
      · go_wp2
        go_ret
        exact ⟨⟨false, rfl⟩, rfl⟩
      go_wp2
      go_loop [9, 12] (fun z j => ∃ (k : Nat) (u : Int), k ≤ hs3.length ∧ j = .int .i64 k ∧ z = .int .i64 u ∧ 0 ≤ u ∧ u ≤ 1048576) (fun _ j => hs3.length - (intOf j).toNat)
      case atStart => exact ⟨0, _, by omega, rfl, rfl, by omega, by omega⟩
      case round =>
        obtain ⟨k, u, hk, rfl, rfl, hu0, hu1⟩ := hrel
        by_cases hlt : k < hs3.length
        · have hkL : k < L3.length := by rw [← HL3.out]; exact hlt
          obtain ⟨b1, o1, rfl, hc1⟩ : ∃ b o, a3 = some ⟨b, o, none⟩ ∧ ∀ i (hi : i < hs3.length), w.cell? ⟨b, o + i, none⟩ = some hs3[i] := by
            rcases HC3.out with h | h
            · omega
            · exact h
          have g1 := hc1 k hlt
          have mm := m3.get k hlt hkL
          obtain ⟨x1, y1, e1, _⟩ := mm.open
          rw [e1] at g1
          clear hc1 e1 mm
          have i1 : (k : Int) < (hs3.length : Int) := by omega
          by_cases q1 : (L3[k].length : Int) ≤ 1048576
          · by_cases q2 : u + (L3[k].length : Int) ≤ 1048576
            · go_wp2
              go_round
              case rel => exact ⟨k + 1, _, by omega, by go_num, rfl, by omega, by omega⟩
              case measure => simp [intOf]; omega
            · go_wp2
              go_ret
              exact ⟨⟨false, rfl⟩, rfl⟩
          · go_wp2
            go_ret
            exact ⟨⟨false, rfl⟩, rfl⟩
        go_wp2
        go_ret
        exact ⟨⟨true, rfl⟩, rfl⟩
set_option maxHeartbeats 1000000 in
theorem bytes16 (w : World) (r0 : Option Nat) (v0 : Value) (hs0 : List Value) (L0 : List (List Int))  (h0 : Lies w r0 v0 hs0) (m0 : MsgsAt w hs0 L0) :
    Calls Try.prog 16 #[v0] w fun e w' => SomeBool e ∧ w' = w := by
  obtain ⟨a0, c0, rfl, hc0⟩ := h0.open
  have HC0 := hid hc0
  have HL0 := hid m0.1
  clear hc0 h0
  by_cases g0 : (hs0.length : Int) ≤ 1048576
  rotate_left
  · go_enter Try.func16, Try.ntmps16
    go_wp2
    go_ret
    exact ⟨⟨false, rfl⟩, rfl⟩
  go_enter Try.func16, Try.ntmps16
  go_wp2
  go_loop [3, 4] (fun z j => ∃ (k : Nat) (u : Int), k ≤ hs0.length ∧ j = .int .i64 k ∧ z = .int .i64 u ∧ 0 ≤ u ∧ u ≤ 1048576) (fun _ j => hs0.length - (intOf j).toNat)
  case atStart => exact ⟨0, _, by omega, rfl, rfl, by omega, by omega⟩
  case round =>
    obtain ⟨k, u, hk, rfl, rfl, hu0, hu1⟩ := hrel
    by_cases hlt : k < hs0.length
    · have hkL : k < L0.length := by rw [← HL0.out]; exact hlt
      obtain ⟨b1, o1, rfl, hc1⟩ : ∃ b o, a0 = some ⟨b, o, none⟩ ∧ ∀ i (hi : i < hs0.length), w.cell? ⟨b, o + i, none⟩ = some hs0[i] := by
        rcases HC0.out with h | h
        · omega
        · exact h
      have g1 := hc1 k hlt
      have mm := m0.get k hlt hkL
      obtain ⟨x1, y1, e1, _⟩ := mm.open
      rw [e1] at g1
      clear hc1 e1 mm
      have i1 : (k : Int) < (hs0.length : Int) := by omega
      by_cases q1 : (L0[k].length : Int) ≤ 1048576
      · by_cases q2 : u + (L0[k].length : Int) ≤ 1048576
        · go_wp2
          go_round
          case rel => exact ⟨k + 1, _, by omega, by go_num, rfl, by omega, by omega⟩
          case measure => simp [intOf]; omega
        · go_wp2
          go_ret
          exact ⟨⟨false, rfl⟩, rfl⟩
      · go_wp2
        go_ret
        exact ⟨⟨false, rfl⟩, rfl⟩
    go_wp2
    go_ret
    exact ⟨⟨true, rfl⟩, rfl⟩
set_option maxHeartbeats 1000000 in
theorem bytes19 (w : World) (r1 : Option Nat) (v1 : Value) (hs1 : List Value) (L1 : List (List Int)) (r2 : Option Nat) (v2 : Value) (hs2 : List Value) (L2 : List (List Int)) (x0 : Int) (h1 : Lies w r1 v1 hs1) (m1 : MsgsAt w hs1 L1) (h2 : Lies w r2 v2 hs2) (m2 : MsgsAt w hs2 L2) :
    Calls Try.prog 19 #[.int .i64 x0, v1, v2] w fun e w' => SomeBool e ∧ w' = w := by
  obtain ⟨a1, c1, rfl, hc1⟩ := h1.open
  have HC1 := hid hc1
  have HL1 := hid m1.1
  clear hc1 h1
  obtain ⟨a2, c2, rfl, hc2⟩ := h2.open
  have HC2 := hid hc2
  have HL2 := hid m2.1
  clear hc2 h2
  by_cases g1 : (hs1.length : Int) ≤ 1048576
  rotate_left
  · go_enter Try.func19, Try.ntmps19
    go_wp2
    go_ret
    exact ⟨⟨false, rfl⟩, rfl⟩
  go_enter Try.func19, Try.ntmps19
  go_wp2
  go_loop [7, 8] (fun z j => ∃ (k : Nat) (u : Int), k ≤ hs1.length ∧ j = .int .i64 k ∧ z = .int .i64 u ∧ 0 ≤ u ∧ u ≤ 1048576) (fun _ j => hs1.length - (intOf j).toNat)
  case atStart => exact ⟨0, _, by omega, rfl, rfl, by omega, by omega⟩
  case round =>
    obtain ⟨k, u, hk, rfl, rfl, hu0, hu1⟩ := hrel
    by_cases hlt : k < hs1.length
    · have hkL : k < L1.length := by rw [← HL1.out]; exact hlt
      obtain ⟨b1, o1, rfl, hc1⟩ : ∃ b o, a1 = some ⟨b, o, none⟩ ∧ ∀ i (hi : i < hs1.length), w.cell? ⟨b, o + i, none⟩ = some hs1[i] := by
        rcases HC1.out with h | h
        · omega
        · exact h
      have g1 := hc1 k hlt
      have mm := m1.get k hlt hkL
      obtain ⟨x1, y1, e1, _⟩ := mm.open
      rw [e1] at g1
      clear hc1 e1 mm
      have i1 : (k : Int) < (hs1.length : Int) := by omega
      by_cases q1 : (L1[k].length : Int) ≤ 1048576
      · by_cases q2 : u + (L1[k].length : Int) ≤ 1048576
        · go_wp2
          go_round
          case rel => exact ⟨k + 1, _, by omega, by go_num, rfl, by omega, by omega⟩
          case measure => simp [intOf]; omega
        · go_wp2
          go_ret
          exact ⟨⟨false, rfl⟩, rfl⟩
      · go_wp2
        go_ret
        exact ⟨⟨false, rfl⟩, rfl⟩
    by_cases g2 : (hs2.length : Int) ≤ 1048576
    rotate_left
    · go_wp2
      go_ret
      exact ⟨⟨false, rfl⟩, rfl⟩
    by_cases gg2 : u + (hs2.length : Int) ≤ 1048576
    rotate_left
    · go_wp2
      go_ret
      exact ⟨⟨false, rfl⟩, rfl⟩
    go_wp2
    go_loop [7, 9] (fun z j => ∃ (k : Nat) (u : Int), k ≤ hs2.length ∧ j = .int .i64 k ∧ z = .int .i64 u ∧ 0 ≤ u ∧ u ≤ 1048576) (fun _ j => hs2.length - (intOf j).toNat)
    case atStart => exact ⟨0, _, by omega, rfl, rfl, by omega, by omega⟩
    case round =>
      obtain ⟨k, u, hk, rfl, rfl, hu0, hu1⟩ := hrel
      by_cases hlt : k < hs2.length
      · have hkL : k < L2.length := by rw [← HL2.out]; exact hlt
        obtain ⟨b1, o1, rfl, hc1⟩ : ∃ b o, a2 = some ⟨b, o, none⟩ ∧ ∀ i (hi : i < hs2.length), w.cell? ⟨b, o + i, none⟩ = some hs2[i] := by
          rcases HC2.out with h | h
          · omega
          · exact h
        have g1 := hc1 k hlt
        have mm := m2.get k hlt hkL
        obtain ⟨x1, y1, e1, _⟩ := mm.open
        rw [e1] at g1
        clear hc1 e1 mm
        have i1 : (k : Int) < (hs2.length : Int) := by omega
        by_cases q1 : (L2[k].length : Int) ≤ 1048576
        · by_cases q2 : u + (L2[k].length : Int) ≤ 1048576
          · go_wp2
            go_round
            case rel => exact ⟨k + 1, _, by omega, by go_num, rfl, by omega, by omega⟩
            case measure => simp [intOf]; omega
          · go_wp2
            go_ret
            exact ⟨⟨false, rfl⟩, rfl⟩
        · go_wp2
          go_ret
          exact ⟨⟨false, rfl⟩, rfl⟩
      go_wp2
      go_ret
      exact ⟨⟨true, rfl⟩, rfl⟩
set_option maxHeartbeats 1000000 in
theorem bytes28 (w : World) (r2 : Option Nat) (v2 : Value) (hs2 : List Value) (L2 : List (List Int)) (r3 : Option Nat) (v3 : Value) (hs3 : List Value) (L3 : List (List Int)) (x0 : Int) (x1 : Int) (x4 : Int) (x5 : Int) (h2 : Lies w r2 v2 hs2) (m2 : MsgsAt w hs2 L2) (h3 : Lies w r3 v3 hs3) (m3 : MsgsAt w hs3 L3) :
    Calls Try.prog 28 #[.int .i64 x0, .int .i64 x1, v2, v3, .int .i64 x4, .int .i64 x5] w fun e w' => SomeBool e ∧ w' = w := by
  obtain ⟨a2, c2, rfl, hc2⟩ := h2.open
  have HC2 := hid hc2
  have HL2 := hid m2.1
  clear hc2 h2
  obtain ⟨a3, c3, rfl, hc3⟩ := h3.open
  have HC3 := hid hc3
  have HL3 := hid m3.1
  clear hc3 h3
  by_cases g2 : (hs2.length : Int) ≤ 1048576
  rotate_left
  · go_enter Try.func28, Try.ntmps28
    go_wp2
    go_ret
    exact ⟨⟨false, rfl⟩, rfl⟩
  go_enter Try.func28, Try.ntmps28
  go_wp2
  go_loop [13, 14] (fun z j => ∃ (k : Nat) (u : Int), k ≤ hs2.length ∧ j = .int .i64 k ∧ z = .int .i64 u ∧ 0 ≤ u ∧ u ≤ 1048576) (fun _ j => hs2.length - (intOf j).toNat)
  case atStart => exact ⟨0, _, by omega, rfl, rfl, by omega, by omega⟩
  case round =>
    obtain ⟨k, u, hk, rfl, rfl, hu0, hu1⟩ := hrel
    by_cases hlt : k < hs2.length
    · have hkL : k < L2.length := by rw [← HL2.out]; exact hlt
      obtain ⟨b1, o1, rfl, hc1⟩ : ∃ b o, a2 = some ⟨b, o, none⟩ ∧ ∀ i (hi : i < hs2.length), w.cell? ⟨b, o + i, none⟩ = some hs2[i] := by
        rcases HC2.out with h | h
        · omega
        · exact h
      have g1 := hc1 k hlt
      have mm := m2.get k hlt hkL
      obtain ⟨x1, y1, e1, _⟩ := mm.open
      rw [e1] at g1
      clear hc1 e1 mm
      have i1 : (k : Int) < (hs2.length : Int) := by omega
      by_cases q1 : (L2[k].length : Int) ≤ 1048576
      · by_cases q2 : u + (L2[k].length : Int) ≤ 1048576
        · go_wp2
          go_round
          case rel => exact ⟨k + 1, _, by omega, by go_num, rfl, by omega, by omega⟩
          case measure => simp [intOf]; omega
        · go_wp2
          go_ret
          exact ⟨⟨false, rfl⟩, rfl⟩
      · go_wp2
        go_ret
        exact ⟨⟨false, rfl⟩, rfl⟩
    by_cases g3 : (hs3.length : Int) ≤ 1048576
    rotate_left
    · go_wp2
      go_ret
      exact ⟨⟨false, rfl⟩, rfl⟩
    by_cases gg3 : u + (hs3.length : Int) ≤ 1048576
    rotate_left
    · go_wp2
      go_ret
      exact ⟨⟨false, rfl⟩, rfl⟩
    go_wp2
    go_loop [13, 15] (fun z j => ∃ (k : Nat) (u : Int), k ≤ hs3.length ∧ j = .int .i64 k ∧ z = .int .i64 u ∧ 0 ≤ u ∧ u ≤ 1048576) (fun _ j => hs3.length - (intOf j).toNat)
    case atStart => exact ⟨0, _, by omega, rfl, rfl, by omega, by omega⟩
    case round =>
      obtain ⟨k, u, hk, rfl, rfl, hu0, hu1⟩ := hrel
      by_cases hlt : k < hs3.length
      · have hkL : k < L3.length := by rw [← HL3.out]; exact hlt
        obtain ⟨b1, o1, rfl, hc1⟩ : ∃ b o, a3 = some ⟨b, o, none⟩ ∧ ∀ i (hi : i < hs3.length), w.cell? ⟨b, o + i, none⟩ = some hs3[i] := by
          rcases HC3.out with h | h
          · omega
          · exact h
        have g1 := hc1 k hlt
        have mm := m3.get k hlt hkL
        obtain ⟨x1, y1, e1, _⟩ := mm.open
        rw [e1] at g1
        clear hc1 e1 mm
        have i1 : (k : Int) < (hs3.length : Int) := by omega
        by_cases q1 : (L3[k].length : Int) ≤ 1048576
        · by_cases q2 : u + (L3[k].length : Int) ≤ 1048576
          · go_wp2
            go_round
            case rel => exact ⟨k + 1, _, by omega, by go_num, rfl, by omega, by omega⟩
            case measure => simp [intOf]; omega
          · go_wp2
            go_ret
            exact ⟨⟨false, rfl⟩, rfl⟩
        · go_wp2
          go_ret
          exact ⟨⟨false, rfl⟩, rfl⟩
      go_wp2
      go_ret
      exact ⟨⟨true, rfl⟩, rfl⟩
end Go.Proofs.Qxb6613772a
