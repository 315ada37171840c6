import Derived.Test.Qxb6613813aRows
import Derived.WalkKit
import Derived.ProofKit
import Derived.OpenShut
import Derived.WalkSpells
import Derived.WalkLawsBesides
import Derived.Deep.DeepCutAuto
import Derived.BigQuiet
import Derived.Lib.SliceRun
import Derived.Maps.OwnSet
namespace Go.Proofs.Qxb6613813a
open Go.RowKit
set_option linter.unusedVariables false

theorem hid {p : Prop} (h : p) : Hid p := h
/-- A slice of strings lies at a. -/
def Strs (w : World) (a : Option Addr) (ss : List ByteArray) : Prop :=
  ss.length = 0 ∨ ∃ b o, a = some ⟨b, o, none⟩ ∧ ∀ i (hi : i < ss.length), w.cell? ⟨b, o + i, none⟩ = some (.string ss[i])
theorem Strs.later {w w' : World} {a : Option Addr} {ss : List ByteArray} (h : Strs w a ss) (hb : Below w.heap.size w w') : Strs w' a ss := by
  refine h.imp id ?_
  rintro ⟨b, o, h1, h2⟩
  exact ⟨b, o, h1, fun i hi => cell_later hb (h2 i hi)⟩

/-- A bool; where it is true, the slice is short. -/
def BoolShort (n : Nat) (e : Ending) : Prop := ∃ b, e = .returned (.bool b) ∧ (b = true → n ≤ 1048576)
/-- Some number. -/
def SomeInt (e : Ending) : Prop := ∃ n, e = .returned (.int .i64 n)

set_option maxHeartbeats 1000000 in
theorem bytes10 (w : World) (a : Option Addr) (ss : List ByteArray) (c : Nat) (s1 s2 : ByteArray) (x3 x4 : Int) (h : Strs w a ss) :
    Calls Try.prog 10 #[.slice a ss.length c, .string s1, .string s2, .int .u64 x3, .int .u64 x4] w fun e w' => BoolShort ss.length e ∧ w' = w := by
  have HC := hid h
  clear h
  by_cases g0 : (ss.length : Int) ≤ 1048576
  rotate_left
  · go_enter Try.func10, Try.ntmps10
    go_wp2
    go_ret
    exact ⟨⟨false, rfl, (fun h => by cases h)⟩, rfl⟩
  go_enter Try.func10, Try.ntmps10
  go_wp2
  go_loop [11, 12] (fun z j => ∃ (k : Nat) (u : Int), k ≤ ss.length ∧ j = .int .i64 k ∧ z = .int .i64 u ∧ 0 ≤ u ∧ u ≤ 1048576) (fun _ j => ss.length - (intOf j).toNat)
  case atStart => exact ⟨0, _, by omega, rfl, rfl, by omega, by omega⟩
  case round =>
    obtain ⟨k, u, hk, rfl, rfl, hu0, hu1⟩ := hrel
    by_cases hlt : k < ss.length
    · obtain ⟨b1, o1, rfl, hc1⟩ : ∃ b o, a = some ⟨b, o, none⟩ ∧ ∀ i (hi : i < ss.length), w.cell? ⟨b, o + i, none⟩ = some (.string ss[i]) := by
        rcases HC.out with h | h
        · omega
        · exact h
      have g1 := hc1 k hlt
      clear hc1
      have i1 : (k : Int) < (ss.length : Int) := by omega
      generalize ss[k] = sk at g1
      by_cases q1 : (sk.size : Int) ≤ 1048576
      · by_cases q2 : u + (sk.size : Int) ≤ 1048576
        · go_wp2
          go_round
          case rel => exact ⟨k + 1, _, by omega, by go_num, rfl, by omega, by omega⟩
          case measure => simp [intOf]; omega
        · go_wp2
          go_ret
          exact ⟨⟨false, rfl, (fun h => by cases h)⟩, rfl⟩
      · go_wp2
        go_ret
        exact ⟨⟨false, rfl, (fun h => by cases h)⟩, rfl⟩
    by_cases g1 : (s1.size : Int) ≤ 1048576
    rotate_left
    · go_wp2
      go_ret
      exact ⟨⟨false, rfl, (fun h => by cases h)⟩, rfl⟩
    by_cases gg1 : u + (s1.size : Int) ≤ 1048576
    rotate_left
    · go_wp2
      go_ret
      exact ⟨⟨false, rfl, (fun h => by cases h)⟩, rfl⟩
    by_cases g2 : (s2.size : Int) ≤ 1048576
    rotate_left
    · go_wp2
      go_ret
      exact ⟨⟨false, rfl, (fun h => by cases h)⟩, rfl⟩
    by_cases gg2 : u + (s1.size : Int) + (s2.size : Int) ≤ 1048576
    rotate_left
    · go_wp2
      go_ret
      exact ⟨⟨false, rfl, (fun h => by cases h)⟩, rfl⟩
    go_wp2
    go_ret
    exact ⟨⟨true, rfl, (fun _ => by omega)⟩, rfl⟩

set_option maxHeartbeats 1000000 in
theorem addBytes (w : World) (a : Option Addr) (ss : List ByteArray) (c : Nat) (x0 : Int) (hx0 : 0 ≤ x0) (hx1 : x0 ≤ 1048576) (hl : ss.length ≤ 1048576) (h : Strs w a ss) :
    Calls Try.prog 11 #[.int .i64 x0, .slice a ss.length c] w fun e w' => SomeInt e ∧ w' = w := by
  have HC := hid h
  clear h
  go_enter Try.func11, Try.ntmps11
  go_wp2
  go_loop [0, 5] (fun z j => ∃ (k : Nat) (u : Int), k ≤ ss.length ∧ j = .int .i64 k ∧ z = .int .i64 u ∧ 0 ≤ u ∧ u ≤ 1048576) (fun _ j => ss.length - (intOf j).toNat)
  case atStart => exact ⟨0, _, by omega, rfl, rfl, by omega, by omega⟩
  case round =>
    obtain ⟨k, u, hk, rfl, rfl, hu0, hu1⟩ := hrel
    by_cases hlt : k < ss.length
    · obtain ⟨b1, o1, rfl, hc1⟩ : ∃ b o, a = some ⟨b, o, none⟩ ∧ ∀ i (hi : i < ss.length), w.cell? ⟨b, o + i, none⟩ = some (.string ss[i]) := by
        rcases HC.out with h | h
        · omega
        · exact h
      have g1 := hc1 k hlt
      clear hc1
      have i1 : (k : Int) < (ss.length : Int) := by omega
      generalize ss[k] = sk at g1
      by_cases q1 : (sk.size : Int) ≤ 1048576
      · by_cases q2 : u + (16 + (sk.size : Int)) ≤ 1048576
        · go_wp2
          go_round
          case rel => exact ⟨k + 1, _, by omega, by go_num, rfl, by omega, by omega⟩
          case measure => simp [intOf]; omega
        · go_wp2
          go_ret
          exact ⟨⟨_, rfl⟩, rfl⟩
      · go_wp2
        go_ret
        exact ⟨⟨_, rfl⟩, rfl⟩
    · go_wp2
      go_ret
      exact ⟨⟨_, rfl⟩, rfl⟩

end Go.Proofs.Qxb6613813a
