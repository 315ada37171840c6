import Derived.Test.Qxb6613772aFanSt
namespace Go.Proofs.Qxb6613772a
open Go.RowKit
set_option linter.unusedVariables false

def Inv5 (w0 w : World) (F P : Nat) (pv : Value) (gp : Option Nat) (A C : List (List Int)) (tt : Int) (k : Nat) : Prop :=
  ∃ cs base cv go c j, Fan w0 w F cs base k cv go pv gp [P] A C ∧ PlAt w F P cs tt 0 c j ∧ base ≤ c

theorem tooLong_split {A C : List (List Int)} {e : Ending} (h : TooLong A C e) : ∃ b, e = .returned (.bool b) ∧ (b = false → ∀ k, k < max A.length C.length → (atM A k).length + (atM C k).length ≤ 65535) := by
  rcases h with rfl | ⟨rfl, h⟩
  · exact ⟨true, rfl, fun h => by cases h⟩
  · exact ⟨false, rfl, fun _ => h⟩

set_option maxHeartbeats 2000000 in
set_option maxRecDepth 100000 in
theorem law5 (w : World) (r1 r2 : Option Nat) (v1 v2 : Value) (hs1 hs2 : List Value) (A C : List (List Int)) (tt : Int)
    (h1 : Lies w r1 v1 hs1) (m1 : MsgsAt w hs1 A) (h2 : Lies w r2 v2 hs2) (m2 : MsgsAt w hs2 C) :
    Calls Try.prog 5 #[.int .i64 tt, v1, v2] w fun e w' => e = .returned (.bool true) ∧ Below w.heap.size w w' := by
  obtain ⟨a1, c1, rfl, _⟩ := h1.open
  obtain ⟨a2, c2, rfl, _⟩ := h2.open
  go_enter Try.func5, Try.ntmps5
  go_wp2_with fail
  refine (bytes19 w r1 _ hs1 A r2 _ hs2 C tt h1 m1 h2 m2).mono ?_
  rintro e w' ⟨⟨b, rfl⟩, hw⟩
  obtain rfl := hw.symm
  cases b
  · go_wp2_with fail
    go_ret
    exact ⟨rfl, Below.refl _ _⟩
  go_wp2_with fail
  refine (addSize _ _ r1 _ hs1 A h1 m1 (by omega) (by omega)).mono ?_
  rintro e w' ⟨u0, rfl, hw, hu0, hu0', hu0''⟩
  obtain rfl := hw.symm
  go_wp2_with fail
  refine (addSize _ _ r2 _ hs2 C h2 m2 hu0 hu0').mono ?_
  rintro e w' ⟨u1, rfl, hw, hu1, hu1', hu1''⟩
  obtain rfl := hw.symm
  by_cases hbig : u1 ≤ 1048576
  rotate_left
  · go_wp2_with fail
    go_ret
    exact ⟨rfl, Below.refl _ _⟩
  have hB1 := hu1'' hbig
  have hB0 := hu0'' (by omega)
  have b1 : ∀ b ∈ A, b.length ≤ 1048576 := fun b hb => by have := mem_le_total A b hb; omega
  have b2 : ∀ b ∈ C, b.length ≤ 1048576 := fun b hb => by have := mem_le_total C b hb; omega
  have l0 : A.length + C.length ≤ 131072 := by omega
  clear hB1 hB0 hu0 hu0' hu0'' hu1 hu1' hu1''
  go_wp2_with fail
  refine (tooLong w r1 r2 _ _ hs1 hs2 A C h1 h2 m1 m2 b1 b2 (by omega) (by omega)).mono ?_
  rintro e w' ⟨hT, hw⟩
  obtain rfl := hw.symm
  obtain ⟨b, rfl, hsum⟩ := tooLong_split hT
  clear hT
  cases b
  rotate_left
  · go_wp2_with fail
    go_ret
    exact ⟨rfl, Below.refl _ _⟩
  have hsm := hsum rfl
  clear hsum
  obtain ⟨M, hM⟩ : ∃ M, M = max A.length C.length := ⟨_, rfl⟩
  rw [← hM] at hsm
  have hMl : M ≤ 131072 := by omega
  have HM := hid hM
  clear hM
  go_wp2_with fail
  refine (messages w r1 r2 _ _ hs1 hs2 A C h1 h2 m1 m2 b1 b2 (by omega) (by omega) M HM.out).mono ?_
  rintro e w1 ⟨hsW, rfl, hb1, hf1, hm1⟩
  go_wp2_with fail
  refine (cloneMsgs _ r1 _ hs1 A (h1.later hb1) (m1.later hb1) (by omega) b1).mono ?_
  rintro e w2 ⟨x2, rw2, hsA, rfl, hb2, hf2, hr2, hm2⟩
  have hB2 := hb1.trans (hb2.mono hb1.size)
  go_wp2_with fail
  refine (cloneMsgs _ r2 _ hs2 C (h2.later hB2) (m2.later hB2) (by omega) b2).mono ?_
  rintro e w3 ⟨x3, rw3, hsC, rfl, hb3, hf3, hr3, hm3⟩
  have hB3 := hB2.trans (hb3.mono hB2.size)
  have d13 := hb2.trans (hb3.mono hb2.size)
  have f1 := hf1.later d13
  have g1 := hm1.at.later d13
  have f2 := hf2.later hb3
  have g2 := hm2.at.later hb3
  have f3 := hf3
  have g3 := hm3.at
  have HB := hid hB3
  clear hf1 hf2 hf3 hm1 hm2 hm3 hr2 hr3 hb1 hb2 hb3 hB2 hB3 d13 h1 h2 m1 m2
  go_wp2_with fail
  refine (newFanout _).mono ?_
  rintro e w4 ⟨rfl, hn4, hb4⟩
  go_wp2_with fail
  refine (place23 w4 w3.heap.size w3.heap.size _ none [] tt hn4 hb4.size (by simp)).mono ?_
  rintro e w5 ⟨pv, gp, rfl, hn5, hp5, ht5, hgp⟩
  have hb5 : Below w3.heap.size w3 w5 := hb4.trans (ht5.below hb4.size (Nat.le_refl _) (fun k hk => by cases hk))
  have hPB : w3.heap.size ≤ w4.heap.size := hb4.size
  generalize w4.heap.size = P at *
  have hgP : some gp ≠ some P := fun e => by
    rcases hgp with h | h
    · cases h
    · have := Option.some.inj e; omega
  have hs0 : Inv5 w3 w5 w3.heap.size P pv (some gp) A C tt 0 := ⟨[], 0, _, none, 0, 0, Fan.start hn5 hb5, pl_start hp5, Nat.le_refl _⟩
  have HG := hid hgP
  clear hn5 hp5 ht5 hgp hn4 hb4 hb5 hgP
  generalize some gp = gq at *
  go_wp2_with fail
  go_loopw [11] (fun t w' => ∃ k : Nat, k ≤ M ∧ t = .int .i64 k ∧ Inv5 w3 w' w3.heap.size P pv gq A C tt k) (fun t _ => M - (intOf t).toNat)
  case atStart => exact ⟨0, by omega, rfl, hs0⟩
  case round =>
    obtain ⟨k, hk, rfl, cs, base, cv, go, c, j, hF, hP, hbc⟩ := hrel
    by_cases hlt : k < M
    · have i1 : (k : Int) < (M : Int) := by omega
      go_wp2_with fail
      refine (zzAt_any _ rw2 _ hsA A k (f2.later hF.below).lies (g2.later hF.below)).mono ?_
      rintro e w' ⟨⟨y1, d1, rfl, hy1⟩, hw⟩
      obtain rfl := hw.symm
      have hX : MsgAt w3 (.slice y1 (atM A k).length d1) (atM A k) := by rw [← hy1]; exact g2.hd k
      clear hy1
      go_wp2_with fail
      refine (zzAt_any _ rw3 _ hsC C k (f3.later hF.below).lies (g3.later hF.below)).mono ?_
      rintro e w' ⟨⟨y2, d2, rfl, hy2⟩, hw⟩
      obtain rfl := hw.symm
      have hY : MsgAt w3 (.slice y2 (atM C k).length d2) (atM C k) := by rw [← hy2]; exact g3.hd k
      clear hy2
      go_wp2_with fail
      refine (put_fan hF [c] rfl (fun i hi hi' => ?_) (fun x hx => ?_) (by omega) (by simp) (hsm k hlt) y1 y2 d1 d2 hX hY).mono ?_
      · obtain rfl : i = 0 := by simpa using hi
        exact ⟨tt, 0, j, hP⟩
      · obtain rfl := List.mem_singleton.1 hx
        exact hbc
      rintro e w7 ⟨v, cs', base', cv', go', rfl, hv, hF', hb', _, hpl, _⟩
      have hP' := hpl P tt 0 c j hP
      have hbc' := hb' c (by simp)
      have hkW : k < hsW.length := by rw [g1.1, len_wantM]; exact hlt
      have hmW : MsgAt w7 hsW[k] (atM A k ++ atM C k) := by
        have h := (g1.later hF'.below).get k hkW (by rw [len_wantM]; exact hlt)
        rwa [wantM_at A C M k hlt] at h
      obtain ⟨bb, hxb, hcell⟩ := (f1.later hF'.below).cell k hkW
      simp only [Option.some.injEq, Addr.mk.injEq, and_true] at hxb
      subst hxb
      obtain ⟨p1, p2, p3, e1⟩ := g1.shape _ (List.getElem_mem hkW)
      rw [e1] at hcell hmW
      clear e1 hpl hb' hbc
      go_wp2_with fail
      refine (eqMsg _ v _ _ _ hv hmW (by rw [List.length_append]; have := hsm k hlt; omega)).mono ?_
      rintro e w8 ⟨rfl, n8, hw8⟩
      rw [beq_self_eq_true]
      have hb8 : Below w7.heap.size w7 w8 := by rw [hw8]; exact below_drewN (Below.refl _ _) _
      have hI : Inv5 w3 w8 w3.heap.size P pv gq A C tt (k + 1) := ⟨cs', base', cv', go', c, j, hF'.later hb8, hP'.kept (hb8.block P hP'.ltP), hbc'⟩
      clear hw8 hb8 hP' hF' hP hF
      go_wp2_with fail
      go_roundw
      case rel => exact ⟨k + 1, by omega, by go_num, hI⟩
      case measure => simp [intOf]; omega
    · obtain rfl : k = M := by omega
      obtain ⟨WA, rfl⟩ : ∃ WA : World, WA = wr := ⟨_, rfl⟩
      go_wp2_with fail
      refine (len26 _ w3.heap.size P tt 0 k c _ _ _ _ _ (by omega) (by omega) hP.row hF.fat.row).mono ?_
      rintro e w7 ⟨rfl, hb7⟩
      rw [Nat.sub_zero]
      have hF7 := hF.later hb7
      have hP7 := hP.kept (hb7.block P hP.ltP)
      clear hF hP hb7
      go_wp2_with fail
      refine (take_fan hF7 P tt 0 c j hP7 hbc (by omega) (by omega) hsm (.slice none 0 0) none [] (.inl ⟨rfl, rfl, rfl⟩) (by simp) (fun k hk => by cases hk) HG.out hPB (fun k hk => by cases hk) _ k (by omega)).mono ?_
      rintro e w8 ⟨bv, gb, hs', c', j', rfl, hown, _, hl', hhd, hF8, hP8, _⟩
      rw [List.nil_append] at hown
      go_wp2_with fail
      refine (eqMsgs_true _ gb _ bv _ hs' hsW (msgs cs) (wantM A C k) hown.lies (f1.later hF8.below).lies (hhd.msgs hF8.fat (by rw [hl', hF8.msgs, len_wantM])) (g1.later hF8.below) hF8.msgs (by rw [hF8.msgs, len_wantM]; omega) (fun b hb => by rw [hF8.msgs] at hb; have := mem_wantM A C 65535 k hsm b hb; omega)).mono ?_
      rintro e w9 ⟨rfl, n9, hw9⟩
      have hb9 : Below w8.heap.size w8 w9 := by rw [hw9]; exact below_drewN (Below.refl _ _) _
      have hF9 := hF8.later hb9
      have hP9 := hP8.kept (hb9.block P hP8.ltP)
      clear hw9 hb9 hF8 hP8 hF7 hP7 hown hhd hl'
      go_wp2_with fail
      refine (len26 _ w3.heap.size P tt (0 + k) k c' _ _ _ _ _ (by omega) (by omega) hP9.row hF9.fat.row).mono ?_
      rintro e w10 ⟨rfl, hb10⟩
      rw [show k - (0 + k) = 0 by omega]
      have hbE := HB.out.trans ((hF9.later hb10).below.mono HB.out.size)
      go_wp2_with fail
      go_ret
      exact ⟨rfl, hbE⟩
end Go.Proofs.Qxb6613772a
