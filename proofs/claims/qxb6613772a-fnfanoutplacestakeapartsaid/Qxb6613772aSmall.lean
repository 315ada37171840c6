import Derived.Test.Qxb6613772aEq
namespace Go.Proofs.Qxb6613772a
open Go.RowKit
set_option linter.unusedVariables false

theorem zzMin_any (a b : Int) (w : World) : Calls Try.prog 13 #[.int .i64 a, .int .i64 b] w fun e w' => e = .returned (.int .i64 (min a b)) ∧ w' = w := by
  by_cases h : a < b
  · go_enter Try.func13, Try.ntmps13
    go_wp2
    go_ret
    exact ⟨ret_int (by show a = min a b; omega), rfl⟩
  · go_enter Try.func13, Try.ntmps13
    go_wp2
    go_ret
    exact ⟨ret_int (by show b = min a b; omega), rfl⟩

/-- The sum of the lengths. -/
def total : List (List Int) → Nat
  | [] => 0
  | b :: r => b.length + total r
theorem total_append (A B : List (List Int)) : total (A ++ B) = total A + total B := by
  induction A with
  | nil => simp [total]
  | cons a r ih => simp [total, ih]; omega
theorem total_take_succ (L : List (List Int)) (k : Nat) (h : k < L.length) : total (L.take (k + 1)) = total (L.take k) + L[k].length := by
  rw [List.take_succ_eq_append_getElem h, total_append]; simp [total]
theorem mem_le_total (L : List (List Int)) (b : List Int) (h : b ∈ L) : b.length ≤ total L := by
  induction L with
  | nil => cases h
  | cons a r ih =>
    simp only [total]
    rcases List.mem_cons.1 h with rfl | h
    · omega
    · have := ih h; omega

set_option maxHeartbeats 400000 in
/-- zzAddSize: where it answers at most 2^20 the lengths are within it. -/
theorem addSize (w : World) (t : Int) (r : Option Nat) (v : Value) (hs : List Value) (L : List (List Int)) (h : Lies w r v hs) (hm : MsgsAt w hs L) (ht0 : 0 ≤ t) (ht : t ≤ 1048577) :
    Calls Try.prog 8 #[.int .i64 t, v] w fun e w' => ∃ u : Int, e = .returned (.int .i64 u) ∧ w' = w ∧ 0 ≤ u ∧ u ≤ 1048577 ∧ (u ≤ 1048576 → t + 8 * (L.length : Int) + (total L : Int) ≤ u) := by
  obtain ⟨a, c, rfl, hc⟩ := h.open
  have hLn := hm.1
  have HC := hid hc
  have HL := hid hLn
  clear hc h hLn
  by_cases h1 : t ≤ 1048576
  · by_cases h2 : (hs.length : Int) ≤ (1048576 - t) / 8
    · go_enter Try.func8, Try.ntmps8
      go_wp2
      go_loop [0, 5] (fun u i => ∃ k : Nat, k ≤ hs.length ∧ i = .int .i64 k ∧ u = .int .i64 (t + 8 * (hs.length : Int) + (total (L.take k) : Int)) ∧ t + 8 * (hs.length : Int) + (total (L.take k) : Int) ≤ 1048576) (fun _ i => hs.length - (intOf i).toNat)
      case atStart => exact ⟨0, by omega, rfl, by simp [total], by simp [total]; omega⟩
      case round =>
        obtain ⟨k, hk, rfl, rfl, hb⟩ := hrel
        by_cases hlt : k < hs.length
        · have hkL : k < L.length := by rw [← HL.out]; exact hlt
          obtain ⟨b1, o1, rfl, hc1⟩ : ∃ b o, a = some ⟨b, o, none⟩ ∧ ∀ i (hi : i < hs.length), w.cell? ⟨b, o + i, none⟩ = some hs[i] := by
            rcases HC.out with h | h
            · omega
            · exact h
          have g1 := hc1 k hlt
          have m1 := hm.get k hlt hkL
          obtain ⟨x1, y1, e1, _⟩ := m1.open
          rw [e1] at g1
          have HT := hid (total_take_succ L k hkL)
          clear hc1 e1 m1 hm
          have i1 : (k : Int) < (hs.length : Int) := by omega
          generalize total (List.take k L) = T at *
          by_cases h3 : (L[k].length : Int) ≤ 1048576 - (t + 8 * (hs.length : Int) + (T : Int))
          · go_wp2
            go_round
            case rel => exact ⟨k + 1, by omega, by go_num, congrArg (Value.int .i64) (by rw [HT.out]; omega), by rw [HT.out]; omega⟩
            case measure => simp [intOf]; omega
          · go_wp2
            go_ret
            exact ⟨1048577, rfl, rfl, by omega, by omega, fun h => by omega⟩
        · obtain rfl : k = hs.length := by omega
          go_wp2
          go_ret
          refine ⟨_, rfl, rfl, by omega, by omega, fun _ => ?_⟩
          have := HL.out
          rw [List.take_of_length_le (by omega)]
          omega
    · go_enter Try.func8, Try.ntmps8
      go_wp2
      go_ret
      exact ⟨1048577, rfl, rfl, by omega, by omega, fun h => by omega⟩
  · go_enter Try.func8, Try.ntmps8
    go_wp2
    go_ret
    exact ⟨1048577, rfl, rfl, by omega, by omega, fun h => by omega⟩

set_option maxHeartbeats 400000 in
/-- zzJoin: the headers of both, one behind the other. -/
theorem join (w : World) (r1 r2 : Option Nat) (u v : Value) (hs1 hs2 : List Value) (h1 : Lies w r1 u hs1) (h2 : Lies w r2 v hs2) (hl1 : hs1.length ≤ 4194304) (hl2 : hs2.length ≤ 4194304)
    (hc1 : ∀ x ∈ hs1, ∃ a n c, x = .slice a n c) (hc2 : ∀ x ∈ hs2, ∃ a n c, x = .slice a n c) :
    Calls Try.prog 15 #[u, v] w fun e w' => ∃ a c, e = .returned (.slice a (hs1 ++ hs2).length c) ∧ Below w.heap.size w w' ∧ Lies w' (some w.heap.size) (.slice a (hs1 ++ hs2).length c) (hs1 ++ hs2) := by
  obtain ⟨a, c, rfl, ha⟩ := h1.open
  obtain ⟨b, d, rfl, hb⟩ := h2.open
  obtain ⟨i, hi, hz0, hz1, hz2⟩ := info_parts info29
  have HA := hid ha
  have HB := hid hb
  clear ha hb h1 h2
  have hsz : ((hs1.length + hs2.length : Nat) : Int) = (hs1.length : Int) + (hs2.length : Int) := by omega
  go_enter Try.func15, Try.ntmps15
  go_wp2_with (at_make; refine wpList_make_own _ rfl _ _ 22 rfl w.heap.size 29 i _ 1 Try.underlying22 hi hz0 hz1 .i64 .i64 _ (hs1.length + hs2.length) (by rfl) (by rfl) (by omega) (by rw [hz2]; omega) (by unfold maxLen; omega) (Nat.le_refl _) ?_; intro w1 hown1 hgr1)
  go_loopw [5, 6] (fun t j w' => ∃ k : Nat, k ≤ hs1.length ∧ j = .int .i64 k ∧ t = .slice (some ⟨w.heap.size, 0, none⟩) k (hs1.length + hs2.length) ∧ w'.ownsRow w.heap.size 29 1 (.slice (some ⟨w.heap.size, 0, none⟩) k (hs1.length + hs2.length)) k (hs1.take k) ∧ Below w.heap.size w w' ∧ w.heap.size < w'.heap.size) (fun _ j _ => hs1.length - (intOf j).toNat)
  case atStart => exact ⟨0, by omega, rfl, rfl, by rw [List.take_zero]; exact hown1, (Below.refl _ _).grown hgr1 (Nat.le_refl _) (fun k hk => by cases hk), (hown1.lt w.heap.size rfl).2⟩
  case round =>
    obtain ⟨k, hk, rfl, rfl, hown, hbel, hsz1⟩ := hrel
    by_cases hlt : k < hs1.length
    · obtain ⟨b1, o1, rfl, hca⟩ : ∃ b o, a = some ⟨b, o, none⟩ ∧ ∀ i (hi : i < hs1.length), w.cell? ⟨b, o + i, none⟩ = some hs1[i] := by
        rcases HA.out with h | h
        · omega
        · exact h
      have g1 := cell_later hbel (hca k hlt)
      obtain ⟨x1, x2, x3, e1⟩ := hc1 _ (List.getElem_mem hlt)
      have HX := hid (List.take_succ_eq_append_getElem hlt)
      have HE := hid e1
      rw [e1] at g1
      clear hca e1
      have i1 : (k : Int) < (hs1.length : Int) := by omega
      go_wp2_with (at_builtin; go_must (refine wpList_append_fits _ rfl _ _ 22 rfl w.heap.size 29 i 1 Try.underlying22 hi hz1 w.heap.size k (hs1.length + hs2.length) (hs1.take k) (by rfl) (hown.alloc _) ⟨wr.heap.size, 0, none⟩ 1 1 [.slice x1 x2 x3] (by rfl) rfl (World.news_of_block (heap_alloc_new wr _)) (by simp [Value.oneCell']) (by omega) ?_); intro w2 hown2 hgr2)
      go_roundw
      case rel => exact ⟨k + 1, by omega, by go_num, rfl, by rw [HX.out, HE.out]; exact hown2, (hbel.alloc (by omega) _).grown hgr2 (by simp; omega) (fun j hj => by rw [← Option.some.inj hj]; exact Nat.le_refl _), by have := hgr2.size; simp at this; omega⟩
      case measure => simp [intOf]; omega
    · obtain rfl : k = hs1.length := by omega
      rw [List.take_length] at hown
      go_wp2
      go_loopw [5, 7] (fun t j w' => ∃ k : Nat, k ≤ hs2.length ∧ j = .int .i64 k ∧ t = .slice (some ⟨w.heap.size, 0, none⟩) (hs1.length + k) (hs1.length + hs2.length) ∧ w'.ownsRow w.heap.size 29 1 (.slice (some ⟨w.heap.size, 0, none⟩) (hs1.length + k) (hs1.length + hs2.length)) (hs1.length + k) (hs1 ++ hs2.take k) ∧ Below w.heap.size w w' ∧ w.heap.size < w'.heap.size) (fun _ j _ => hs2.length - (intOf j).toNat)
      case atStart => exact ⟨0, by omega, rfl, rfl, by rw [List.take_zero, List.append_nil]; exact hown, hbel, hsz1⟩
      case round =>
        obtain ⟨k, hk, rfl, rfl, hown, hbel, hsz1⟩ := hrel
        by_cases hlt : k < hs2.length
        · obtain ⟨b1, o1, rfl, hca⟩ : ∃ b' o, b = some ⟨b', o, none⟩ ∧ ∀ i (hi : i < hs2.length), w.cell? ⟨b', o + i, none⟩ = some hs2[i] := by
            rcases HB.out with h | h
            · omega
            · exact h
          have g1 := cell_later hbel (hca k hlt)
          obtain ⟨x1, x2, x3, e1⟩ := hc2 _ (List.getElem_mem hlt)
          have HX := hid (List.take_succ_eq_append_getElem hlt)
          have HE := hid e1
          rw [e1] at g1
          clear hca e1
          have i1 : (k : Int) < (hs2.length : Int) := by omega
          go_wp2_with (at_builtin; go_must (refine wpList_append_fits _ rfl _ _ 22 rfl w.heap.size 29 i 1 Try.underlying22 hi hz1 w.heap.size (hs1.length + k) (hs1.length + hs2.length) (hs1 ++ hs2.take k) (by rfl) (hown.alloc _) ⟨wr.heap.size, 0, none⟩ 1 1 [.slice x1 x2 x3] (by rfl) rfl (World.news_of_block (heap_alloc_new wr _)) (by simp [Value.oneCell']) (by omega) ?_); intro w2 hown2 hgr2)
          go_roundw
          case rel => exact ⟨k + 1, by omega, by go_num, rfl, by rw [HX.out, HE.out, ← List.append_assoc]; exact hown2, (hbel.alloc (by omega) _).grown hgr2 (by simp; omega) (fun j hj => by rw [← Option.some.inj hj]; exact Nat.le_refl _), by have := hgr2.size; simp at this; omega⟩
          case measure => simp [intOf]; omega
        · obtain rfl : k = hs2.length := by omega
          rw [List.take_length] at hown
          go_wp2
          go_ret
          refine ⟨some ⟨w.heap.size, 0, none⟩, _, by rw [List.length_append]; rfl, hbel, _, _, rfl, .inr ⟨w.heap.size, 0, rfl, rfl, fun j hj => ?_⟩⟩
          rw [List.getElem?_eq_getElem hj]
          have := hown.cells (g := w.heap.size) rfl j _ (List.getElem?_eq_getElem hj)
          rwa [Addr.add_mid] at this
end Go.Proofs.Qxb6613772a
