import Derived.Test.Qxb6613772aInv6
namespace Go.Proofs.Qxb6613772a
open Go.RowKit
set_option linter.unusedVariables false

set_option maxHeartbeats 2000000 in
set_option maxRecDepth 100000 in
theorem law6 (w : World) (r1 r2 : Option Nat) (v1 v2 : Value) (hs1 hs2 : List Value) (A C : List (List Int)) (tA tB sA sB : Int)
    (h1 : Lies w r1 v1 hs1) (m1 : MsgsAt w hs1 A) (h2 : Lies w r2 v2 hs2) (m2 : MsgsAt w hs2 C) :
    Calls Try.prog 6 #[.int .i64 tA, .int .i64 tB, v1, v2, .int .i64 sA, .int .i64 sB] w fun e w' => e = .returned (.bool true) ∧ Below w.heap.size w w' := by
  obtain ⟨a1, c1, rfl, _⟩ := h1.open
  obtain ⟨a2, c2, rfl, _⟩ := h2.open
  go_enter Try.func6, Try.ntmps6
  go_wp2_with fail
  refine (bytes28 w r1 _ hs1 A r2 _ hs2 C tA tB sA sB h1 m1 h2 m2).mono ?_
  rintro e w' ⟨⟨b, rfl⟩, hw⟩
  obtain rfl := hw.symm
  cases b
  · go_wp2_with fail
    go_ret
    exact ⟨rfl, Below.refl _ _⟩
  go_wp2_with fail
  refine (addSize _ _ r1 _ hs1 A h1 m1 (by omega) (by omega)).mono ?_
  rintro e w' ⟨u0, rfl, hw, hu0, hu0', hu0''⟩
  obtain rfl := hw.symm
  go_wp2_with fail
  refine (addSize _ _ r2 _ hs2 C h2 m2 hu0 hu0').mono ?_
  rintro e w' ⟨u1, rfl, hw, hu1, hu1', hu1''⟩
  obtain rfl := hw.symm
  by_cases hbig : u1 ≤ 1048576
  rotate_left
  · go_wp2_with fail
    go_ret
    exact ⟨rfl, Below.refl _ _⟩
  have hB1 := hu1'' hbig
  have hB0 := hu0'' (by omega)
  have b1 : ∀ b ∈ A, b.length ≤ 1048576 := fun b hb => by have := mem_le_total A b hb; omega
  have b2 : ∀ b ∈ C, b.length ≤ 1048576 := fun b hb => by have := mem_le_total C b hb; omega
  have l0 : A.length + C.length ≤ 131072 := by omega
  clear hB1 hB0 hu0 hu0' hu0'' hu1 hu1' hu1''
  go_wp2_with fail
  refine (tooLong w r1 r2 _ _ hs1 hs2 A C h1 h2 m1 m2 b1 b2 (by omega) (by omega)).mono ?_
  rintro e w' ⟨hT, hw⟩
  obtain rfl := hw.symm
  obtain ⟨b, rfl, hsum⟩ := tooLong_split hT
  clear hT
  cases b
  rotate_left
  · go_wp2_with fail
    go_ret
    exact ⟨rfl, Below.refl _ _⟩
  have hsm := hsum rfl
  clear hsum
  obtain ⟨M, hM⟩ : ∃ M, M = max A.length C.length := ⟨_, rfl⟩
  rw [← hM] at hsm
  have hMl : M ≤ 131072 := by omega
  have HM := hid hM
  clear hM
  go_wp2_with fail
  refine (messages w r1 r2 _ _ hs1 hs2 A C h1 h2 m1 m2 b1 b2 (by omega) (by omega) M HM.out).mono ?_
  rintro e w1 ⟨hsW, rfl, hb1, hf1, hm1⟩
  go_wp2_with fail
  refine (cloneMsgs _ r1 _ hs1 A (h1.later hb1) (m1.later hb1) (by omega) b1).mono ?_
  rintro e w2 ⟨x2, rw2, hsA, rfl, hb2, hf2, hr2, hm2⟩
  have hB2 := hb1.trans (hb2.mono hb1.size)
  go_wp2_with fail
  refine (cloneMsgs _ r2 _ hs2 C (h2.later hB2) (m2.later hB2) (by omega) b2).mono ?_
  rintro e w3 ⟨x3, rw3, hsC, rfl, hb3, hf3, hr3, hm3⟩
  have hB3 := hB2.trans (hb3.mono hB2.size)
  have d13 := hb2.trans (hb3.mono hb2.size)
  have f1 := hf1.later d13
  have g1 := hm1.at.later d13
  have f2 := hf2.later hb3
  have g2 := hm2.at.later hb3
  have f3 := hf3
  have g3 := hm3.at
  have HB := hid hB3
  clear hf1 hf2 hf3 hm1 hm2 hm3 hr2 hr3 hb1 hb2 hb3 hB2 hB3 d13 h1 h2 m1 m2
  go_wp2_with fail
  refine (newFanout _).mono ?_
  rintro e w4 ⟨rfl, hn4, hb4⟩
  go_wp2_with fail
  refine (place23 w4 w3.heap.size w3.heap.size _ none [] tA hn4 hb4.size (by simp)).mono ?_
  rintro e w5 ⟨pv5, gp5, rfl, hn5, hp5, ht5, hgp5⟩
  have hb5 : Below w3.heap.size w3 w5 := hb4.trans (ht5.below hb4.size (Nat.le_refl _) (fun k hk => by cases hk))
  have hPB : w3.heap.size ≤ w4.heap.size := hb4.size
  have hP5 : w4.heap.size < w5.heap.size := (Array.getElem?_eq_some_iff.1 hp5).1
  have hFP : w4.heap.size ≠ w3.heap.size := ne_of_type hp5 hn5.row (by decide)
  generalize w4.heap.size = P at *
  have hgP5 : P < gp5 := by
    rcases hgp5 with h | h
    · cases h
    · exact h
  have hg5 : gp5 < w5.heap.size := (hn5.at.bgp gp5 rfl).2.1
  go_wp2_with fail
  refine (place23 w5 w3.heap.size w3.heap.size _ (some gp5) [P] tB hn5 hb5.size (by simp)).mono ?_
  rintro e w6 ⟨pv, gp, rfl, hn6, hp6, ht6, hgp6⟩
  have hb6 : Below w3.heap.size w3 w6 := hb5.trans (ht6.below hb5.size (Nat.le_refl _) hn5.bgp)
  have hQB : w3.heap.size ≤ w5.heap.size := hb5.size
  have hp6P := (ht6.block P hP5 hFP (fun e => by have := Option.some.inj e; omega)).trans hp5
  generalize w5.heap.size = Q at *
  have hne : P ≠ Q := by omega
  have hgP : some gp ≠ some P := fun e => by
    have := Option.some.inj e
    rcases hgp6 with h | h
    · have := Option.some.inj h; omega
    · omega
  have hgQ : some gp ≠ some Q := fun e => by
    have := Option.some.inj e
    rcases hgp6 with h | h
    · have := Option.some.inj h; omega
    · omega
  obtain ⟨Z, hZ, hmk⟩ := make_hdrs M (by omega)
  have hs0 := inv_start (A := A) (C := C) hn6 hb6 hp6P hp6 hne hgP hgQ hPB hQB hZ
  have HS := hid hs0
  clear hn4 hb4 hn5 hp5 ht5 hgp5 hb5 hn6 hp6 ht6 hgp6 hb6 hp6P hP5 hFP hgP5 hg5 hne hgP hgQ hZ hs0
  generalize w3.heap.size = F at HS ⊢
  generalize some gp = gq at HS
  go_wp2_with fail
  go_loopw [18, 19, 20, 21, 22] (fun a b x y t w' => ∃ k iA iB : Nat, k ≤ M ∧ t = .int .i64 k ∧ x = .int .i64 iA ∧ y = .int .i64 iB ∧ Inv6 w3 w' F k pv gq [P, Q] A C P Q tA tB a iA b iB) (fun _ _ _ _ t _ => M - (intOf t).toNat)
  case atStart => exact ⟨0, 0, 0, by omega, rfl, rfl, rfl, HS.out⟩
  case round =>
    obtain ⟨k, iA, iB, hk, rfl, rfl, rfl, hI⟩ := hrel
    have leA := hI.le
    have leB := hI.swap.le
    obtain ⟨qa, qc, hva⟩ := hI.shape
    obtain ⟨qb, qd, hvb⟩ := hI.swap.shape
    subst hva
    subst hvb
    by_cases hlt : k < M
    · have i1 : (k : Int) < (M : Int) := by omega
      go_wp2_with fail
      refine (zzAt_any _ rw2 _ hsA A k (f2.later hI.below).lies (g2.later hI.below)).mono ?_
      rintro e w' ⟨⟨y1, d1, rfl, hy1⟩, hw⟩
      obtain rfl := hw.symm
      have hX : MsgAt w3 (.slice y1 (atM A k).length d1) (atM A k) := by rw [← hy1]; exact g2.hd k
      clear hy1
      go_wp2_with fail
      refine (zzAt_any _ rw3 _ hsC C k (f3.later hI.below).lies (g3.later hI.below)).mono ?_
      rintro e w' ⟨⟨y2, d2, rfl, hy2⟩, hw⟩
      obtain rfl := hw.symm
      have hY : MsgAt w3 (.slice y2 (atM C k).length d2) (atM C k) := by rw [← hy2]; exact g3.hd k
      clear hy2
      go_wp2_with fail
      refine (inv_put hI (by omega) (hsm k hlt) y1 y2 d1 d2 hX hY).mono ?_
      rintro e w7 ⟨⟨v, rfl⟩, hI7⟩
      clear hI hX hY
      go_wp2_with fail
      refine (inv_len hI7 (by omega)).mono ?_
      rw [show ((k + 1 : Nat) : Int) = (k : Int) + 1 by omega]
      rintro e w8 ⟨rfl, hI8⟩
      clear hI7
      go_wp2_with fail
      refine (inv_len hI8.swap (by omega)).mono ?_
      rw [show ((k + 1 : Nat) : Int) = (k : Int) + 1 by omega]
      rintro e w9 ⟨rfl, hI9'⟩
      have hI9 := hI9'.swap
      clear hI8 hI9'
      obtain ⟨KA, hKA⟩ : ∃ KA : Nat, (KA : Int) = max 0 (min sA ((k : Int) + 1 - (iA : Int))) := ⟨(max 0 (min sA ((k : Int) + 1 - (iA : Int)))).toNat, by omega⟩
      obtain ⟨KB, hKB⟩ : ∃ KB : Nat, (KB : Int) = max 0 (min sB ((k : Int) + 1 - (iB : Int))) := ⟨(max 0 (min sB ((k : Int) + 1 - (iB : Int)))).toNat, by omega⟩
      have kA : iA + KA ≤ k + 1 := by omega
      have kB : iB + KB ≤ k + 1 := by omega
      have HKA := hid hKA
      have HKB := hid hKB
      clear hKA hKB
      go_wp2_with fail
      refine (inv_take hI9 (by omega) (fun i hi => hsm i (by omega)) sA KA (by rw [show ((k + 1 : Nat) : Int) = (k : Int) + 1 by omega]; exact HKA.out)).mono ?_
      rintro e w10 ⟨v', rfl, hI10⟩
      obtain ⟨qa', qc', hva⟩ := hI10.shape
      subst hva
      clear hI9
      go_wp2_with fail
      refine (inv_take hI10.swap (by omega) (fun i hi => hsm i (by omega)) sB KB (by rw [show ((k + 1 : Nat) : Int) = (k : Int) + 1 by omega]; exact HKB.out)).mono ?_
      rintro e w11 ⟨v'', rfl, hI11'⟩
      obtain ⟨qb', qd', hvb⟩ := hI11'.shape
      subst hvb
      have hI11 := hI11'.swap
      clear hI10 hI11'
      go_wp2_with fail
      refine (takeCount sA _ _ (by omega)).mono ?_
      rw [← HKA.out]
      rintro e w' ⟨rfl, hw⟩
      obtain rfl := hw.symm
      go_wp2_with fail
      refine (takeCount sB _ _ (by omega)).mono ?_
      rw [← HKB.out]
      rintro e w' ⟨rfl, hw⟩
      obtain rfl := hw.symm
      go_wp2_with fail
      go_roundw
      case rel => exact ⟨k + 1, iA + KA, iB + KB, by omega, by go_num, by go_num, by go_num, hI11⟩
      case measure => simp [intOf]; omega
    · obtain rfl : k = M := by omega
      go_wp2_with fail
      refine (inv_take hI (by omega) hsm _ (k - iA) (by omega)).mono ?_
      rw [show iA + (k - iA) = k by omega]
      rintro e w7 ⟨v', rfl, hI7⟩
      obtain ⟨qa', qc', hva⟩ := hI7.shape
      subst hva
      clear hI
      go_wp2_with fail
      refine (inv_take hI7.swap (by omega) hsm _ (k - iB) (by omega)).mono ?_
      rw [show iB + (k - iB) = k by omega]
      rintro e w8 ⟨v'', rfl, hI8'⟩
      obtain ⟨qb', qd', hvb⟩ := hI8'.shape
      subst hvb
      have hI8 := hI8'.swap
      clear hI7 hI8'
      go_wp2_with fail
      refine (inv_eq hI8 rfl (by omega) hsm _ _ hsW f1.lies g1).mono ?_
      rintro e w9 ⟨rfl, hI9⟩
      clear hI8
      go_wp2_with fail
      refine (inv_eq hI9.swap rfl (by omega) hsm _ _ hsW f1.lies g1).mono ?_
      rintro e w10 ⟨rfl, hI10⟩
      clear hI9
      go_wp2_with fail
      refine (inv_len hI10.swap (by omega)).mono ?_
      rw [show (k : Int) - (k : Int) = 0 by omega]
      rintro e w11 ⟨rfl, hI11⟩
      clear hI10
      go_wp2_with fail
      refine (inv_len hI11.swap (by omega)).mono ?_
      rw [show (k : Int) - (k : Int) = 0 by omega]
      rintro e w12 ⟨rfl, hI12⟩
      have hbE := HB.out.trans (hI12.below.mono HB.out.size)
      go_wp2_with fail
      go_ret
      exact ⟨rfl, hbE⟩
end Go.Proofs.Qxb6613772a
