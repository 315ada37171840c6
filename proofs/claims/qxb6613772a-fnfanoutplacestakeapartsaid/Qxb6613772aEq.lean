import Derived.Test.Qxb6613772aClone
namespace Go.Proofs.Qxb6613772a
open Go.RowKit
set_option linter.unusedVariables false

theorem ne_of_at {A B : List Int} (k : Nat) (h1 : k < A.length) (h2 : k < B.length) (h : A[k] ≠ B[k]) : (A == B) = false := by
  rw [beq_eq_false_iff_ne]; rintro rfl; exact h rfl
theorem eq_of_at {A B : List Int} (h : A.length = B.length) (ha : ∀ k (h1 : k < A.length) (h2 : k < B.length), A[k] = B[k]) : (A == B) = true := by
  rw [beq_iff_eq]; exact List.ext_getElem h ha

set_option maxHeartbeats 400000 in
theorem eqMsg (w : World) (u v : Value) (A B : List Int) (hA : MsgAt w u A) (hB : MsgAt w v B) (hAm : A.length ≤ 4294967296) :
    Calls Try.prog 18 #[u, v] w fun e w' => e = .returned (.bool (A == B)) ∧ ∃ n, w' = w.drewN n := by
  obtain ⟨a, c, rfl, hca⟩ := hA.open
  obtain ⟨b, d, rfl, hcb⟩ := hB.open
  by_cases hl : A.length = B.length
  · have hlb : ((A.length : Int) != (B.length : Int)) = false := by rw [hl]; simp
    have HL := hid hl
    have HCA := hid hca
    have HCB := hid hcb
    clear hl hA hB hca hcb
    go_enter Try.func18, Try.ntmps18
    go_wp2
    go_loopw [5] (fun t w' => ∃ k : Nat, k ≤ A.length ∧ t = .int .i64 k ∧ (∀ j (h1 : j < A.length) (h2 : j < B.length), j < k → A[j] = B[j]) ∧ ∃ n, w' = w.drewN n) (fun t _ => A.length - (intOf t).toNat)
    case atStart => exact ⟨0, by omega, rfl, fun j _ _ hj => by omega, 0, rfl⟩
    case round =>
      obtain ⟨k, hk, rfl, hsame, n, rfl⟩ := hrel
      by_cases hlt : k < A.length
      · have hlt' : k < B.length := by rw [← HL.out]; exact hlt
        obtain ⟨b1, o1, rfl, hc1⟩ : ∃ b o, a = some ⟨b, o, none⟩ ∧ ∀ i (hi : i < A.length), w.cell? ⟨b, o + i, none⟩ = some (.int .u8 A[i]) := by
          rcases HCA.out with h | h
          · omega
          · exact h
        obtain ⟨b2, o2, rfl, hc2⟩ : ∃ b' o, b = some ⟨b', o, none⟩ ∧ ∀ i (hi : i < B.length), w.cell? ⟨b', o + i, none⟩ = some (.int .u8 B[i]) := by
          rcases HCB.out with h | h
          · omega
          · exact h
        have g1 := hc1 k hlt
        have g2 := hc2 k hlt'
        have HS := hid hsame
        clear hc1 hc2 hsame
        have i1 : (k : Int) < (A.length : Int) := by omega
        have i2 : (k : Int) < (B.length : Int) := by omega
        by_cases hc : A[k] = B[k]
        · have hcb' : (A[k] != B[k]) = false := by rw [hc]; simp
          have HC := hid hc
          clear hc
          go_wp2
          go_quiet (fail)
          go_wp2
          go_roundw
          case rel => exact ⟨k + 1, by omega, by go_num, fun j h1 h2 hj => by by_cases e : j = k; (subst e; exact HC.out); exact HS.out j h1 h2 (by omega), _, by first | rfl | rw [World.drewN_drewN]⟩
          case measure => simp [intOf]; omega
        · have hcb' : (A[k] != B[k]) = true := by rw [bne_iff_ne]; exact hc
          have HN := hid (ne_of_at k hlt hlt' hc)
          clear hc
          go_wp2
          go_quiet (fail)
          go_wp2
          go_ret
          exact ⟨ret_bool HN.out.symm, _, by first | rfl | rw [World.drewN_drewN]⟩
      · have HE := hid (eq_of_at HL.out (fun j h1 h2 => hsame j h1 h2 (by omega)))
        clear hsame
        go_wp2
        go_ret
        exact ⟨ret_bool HE.out.symm, _, rfl⟩
  · have hlb : ((A.length : Int) != (B.length : Int)) = true := by rw [bne_iff_ne]; omega
    have HN : Hid ((A == B) = false) := by unfold Hid; rw [beq_eq_false_iff_ne]; rintro rfl; exact hl rfl
    clear hl
    go_enter Try.func18, Try.ntmps18
    go_wp2
    go_ret
    exact ⟨ret_bool HN.out.symm, 0, rfl⟩

theorem ne_of_atL {A B : List (List Int)} (k : Nat) (h1 : k < A.length) (h2 : k < B.length) (h : (A[k] == B[k]) = false) : (A == B) = false := by
  rw [beq_eq_false_iff_ne] at h ⊢; rintro rfl; exact h rfl
theorem eq_of_atL {A B : List (List Int)} (h : A.length = B.length) (ha : ∀ k (h1 : k < A.length) (h2 : k < B.length), A[k] = B[k]) : (A == B) = true := by
  rw [beq_iff_eq]; exact List.ext_getElem h ha
theorem MsgsAt.get {w : World} {hs : List Value} {L : List (List Int)} (h : MsgsAt w hs L) (k : Nat) (hk : k < hs.length) (hk' : k < L.length) : MsgAt w hs[k] L[k] := by
  obtain ⟨v, h1, h2⟩ := h.2 k hk'
  rw [List.getElem?_eq_getElem hk] at h1
  rw [Option.some.inj h1]; exact h2
theorem MsgAt.drewN {w : World} {v : Value} {bs : List Int} (h : MsgAt w v bs) (n : Nat) : MsgAt (w.drewN n) v bs := h

set_option maxHeartbeats 400000 in
theorem eqMsgs (w : World) (r1 r2 : Option Nat) (u v : Value) (hs1 hs2 : List Value) (A B : List (List Int)) (h1 : Lies w r1 u hs1) (h2 : Lies w r2 v hs2) (hA : MsgsAt w hs1 A) (hB : MsgsAt w hs2 B) (hAm : A.length ≤ 4294967296) (hAb : ∀ b ∈ A, b.length ≤ 4294967296) :
    Calls Try.prog 14 #[u, v] w fun e w' => e = .returned (.bool (A == B)) ∧ ∃ n, w' = w.drewN n := by
  obtain ⟨a, c, rfl, hca⟩ := h1.open
  obtain ⟨b, d, rfl, hcb⟩ := h2.open
  have hAl := hA.1
  have hBl := hB.1
  have hsm : hs1.length ≤ 4294967296 := by omega
  by_cases hl : hs1.length = hs2.length
  · have hlb : ((hs1.length : Int) != (hs2.length : Int)) = false := by rw [hl]; simp
    have HL := hid hl
    have HCA := hid hca
    have HCB := hid hcb
    have HAL := hid hAl
    have HBL := hid hBl
    clear hl hca hcb h1 h2 hAl hBl
    go_enter Try.func14, Try.ntmps14
    go_wp2
    go_loopw [5] (fun t w' => ∃ k : Nat, k ≤ hs1.length ∧ t = .int .i64 k ∧ (∀ j (h1 : j < A.length) (h2 : j < B.length), j < k → A[j] = B[j]) ∧ ∃ n, w' = w.drewN n) (fun t _ => hs1.length - (intOf t).toNat)
    case atStart => exact ⟨0, by omega, rfl, fun j _ _ hj => by omega, 0, rfl⟩
    case round =>
      obtain ⟨k, hk, rfl, hsame, n, hwr⟩ := hrel
      have HWR := hid hwr
      clear hwr
      by_cases hlt : k < hs1.length
      · have hlt' : k < hs2.length := by rw [← HL.out]; exact hlt
        have hkA : k < A.length := by rw [← HAL.out]; exact hlt
        have hkB : k < B.length := by rw [← HBL.out]; exact hlt'
        obtain ⟨b1, o1, rfl, hc1⟩ : ∃ b o, a = some ⟨b, o, none⟩ ∧ ∀ i (hi : i < hs1.length), w.cell? ⟨b, o + i, none⟩ = some hs1[i] := by
          rcases HCA.out with h | h
          · omega
          · exact h
        obtain ⟨b2, o2, rfl, hc2⟩ : ∃ b' o, b = some ⟨b', o, none⟩ ∧ ∀ i (hi : i < hs2.length), w.cell? ⟨b', o + i, none⟩ = some hs2[i] := by
          rcases HCB.out with h | h
          · omega
          · exact h
        have g1 : wr.cell? ⟨b1, o1 + k, none⟩ = some hs1[k] := by rw [HWR.out]; exact hc1 k hlt
        have g2 : wr.cell? ⟨b2, o2 + k, none⟩ = some hs2[k] := by rw [HWR.out]; exact hc2 k hlt'
        have m1 : MsgAt wr hs1[k] A[k] := by rw [HWR.out]; exact hA.get k hlt hkA
        have m2 : MsgAt wr hs2[k] B[k] := by rw [HWR.out]; exact hB.get k hlt' hkB
        obtain ⟨x1, y1, e1, _⟩ := m1.open
        obtain ⟨x2, y2, e2, _⟩ := m2.open
        rw [e1] at g1 m1
        rw [e2] at g2 m2
        have HS := hid hsame
        clear hc1 hc2 hsame e1 e2 hA hB
        have i1 : (k : Int) < (hs1.length : Int) := by omega
        have i2 : (k : Int) < (hs2.length : Int) := by omega
        have hbk := hAb _ (List.getElem_mem hkA)
        cases hc : (A[k] == B[k])
        · have HN := hid (ne_of_atL k hkA hkB hc)
          go_wp2_with fail
          go_quiet ((go_at_call 18; exact Calls.quiet_of (v := .bool (A[k] == B[k])) (eqMsg _ _ _ A[k] B[k] (m1.drewN _) (m2.drewN _) hbk)))
          go_wp2
          go_ret
          exact ⟨ret_bool HN.out.symm, _, by rw [HWR.out, World.drewN_drewN]⟩
        · go_wp2_with fail
          go_quiet ((go_at_call 18; exact Calls.quiet_of (v := .bool (A[k] == B[k])) (eqMsg _ _ _ A[k] B[k] (m1.drewN _) (m2.drewN _) hbk)))
          go_wp2
          go_roundw
          case rel => exact ⟨k + 1, by omega, by go_num, fun j h1 h2 hj => by by_cases e : j = k; (subst e; simpa using hc); exact HS.out j h1 h2 (by omega), _, by rw [HWR.out, World.drewN_drewN]⟩
          case measure => simp [intOf]; omega
      · have HE := hid (eq_of_atL (by rw [← HAL.out, ← HBL.out]; exact HL.out) (fun j h1 h2 => hsame j h1 h2 (by have := HAL.out; omega)))
        clear hsame
        go_wp2
        go_ret
        exact ⟨ret_bool HE.out.symm, _, HWR.out⟩
  · have hlb : ((hs1.length : Int) != (hs2.length : Int)) = true := by rw [bne_iff_ne]; omega
    have HN : Hid ((A == B) = false) := by unfold Hid; rw [beq_eq_false_iff_ne]; rintro rfl; exact hl (by omega)
    clear hl
    go_enter Try.func14, Try.ntmps14
    go_wp2
    go_ret
    exact ⟨ret_bool HN.out.symm, 0, rfl⟩
end Go.Proofs.Qxb6613772a
