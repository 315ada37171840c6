import Derived.Test.Qxb6613772aTake
import Derived.Test.Qxb6613772aBytes
namespace Go.Proofs.Qxb6613772a
open Go.RowKit
set_option linter.unusedVariables false

theorem Lies.touch {w w' : World} {r go : Option Nat} {q : Nat} {v : Value} {xs : List Value} (h : Lies w r v xs) (ht : Touch w w' q go) (hr : ∀ k, r = some k → k ≠ q ∧ some k ≠ go) : Lies w' r v xs := by
  rcases h.lt with h0 | ⟨k, hk, hlt⟩
  · obtain ⟨a, c, h1, _⟩ := h
    exact ⟨a, c, h1, .inl h0⟩
  · refine h.kept (fun j hj => ?_)
    obtain rfl : j = k := by rw [hj] at hk; exact Option.some.inj hk
    exact ht.block j hlt (hr j hj).1 (hr j hj).2
theorem FullAt.lies {w : World} {r : Option Nat} {v : Value} {xs : List Value} (h : FullAt w r v xs) : Lies w r v xs := h.own.lies
theorem FullAt.lt {w : World} {r : Option Nat} {v : Value} {xs : List Value} (h : FullAt w r v xs) : ∀ k, r = some k → k < w.heap.size := h.own.lt
theorem FullAt.later {w w' : World} {r : Option Nat} {v : Value} {xs : List Value} (h : FullAt w r v xs) (hb : Below w.heap.size w w') : FullAt w' r v xs := h.kept (fun k hk => hb.block k (h.lt k hk))
theorem MsgsAt.shape {w : World} {hs : List Value} {L : List (List Int)} (h : MsgsAt w hs L) : ∀ x ∈ hs, ∃ a n c, x = .slice a n c := fun x hx => by
  obtain ⟨i, hi, rfl⟩ := List.mem_iff_getElem.1 hx
  obtain ⟨a, c, e, _⟩ := (h.get i hi (by rw [← h.1]; exact hi)).open
  exact ⟨a, _, c, e⟩
theorem eqMsgs_true (w : World) (r1 r2 : Option Nat) (u v : Value) (hs1 hs2 : List Value) (A B : List (List Int)) (h1 : Lies w r1 u hs1) (h2 : Lies w r2 v hs2) (hA : MsgsAt w hs1 A) (hB : MsgsAt w hs2 B) (hAB : A = B) (hAm : A.length ≤ 4294967296) (hAb : ∀ b ∈ A, b.length ≤ 4294967296) :
    Calls Try.prog 14 #[u, v] w fun e w' => e = .returned (.bool true) ∧ ∃ n, w' = w.drewN n := by
  subst hAB
  refine (eqMsgs w r1 r2 u v hs1 hs2 A A h1 h2 hA hB hAm hAb).mono ?_
  rintro e w' ⟨rfl, h⟩
  exact ⟨by rw [beq_self_eq_true], h⟩

theorem FullAt.cell {w : World} {r : Option Nat} {x : Option Addr} {n m : Nat} {xs : List Value} (h : FullAt w r (.slice x n m) xs) (i : Nat) (hi : i < xs.length) : ∃ b, x = some ⟨b, 0, none⟩ ∧ w.cell? ⟨b, i, none⟩ = some xs[i] := by
  rcases h with ⟨_, h, _⟩ | ⟨b, _, h2, cur, h3, h4, h5⟩
  · subst h; simp at hi
  · simp only [Value.slice.injEq] at h2
    exact ⟨b, h2.1, by rw [cell_of_row _ _ _ _ _ _ h3, h5 i hi]; exact List.getElem?_eq_getElem hi⟩
theorem FullAt.pre {w : World} {r : Option Nat} {x : Option Addr} {n m : Nat} {xs : List Value} (h : FullAt w r (.slice x n m) xs) (k : Nat) (hk : k ≤ xs.length) : Lies w r (.slice x k m) (xs.take k) := by
  have hl : (xs.take k).length = k := by simp; omega
  refine ⟨x, m, by rw [hl], ?_⟩
  rcases h with ⟨_, h, _⟩ | ⟨b, h1, h2, cur, h3, h4, h5⟩
  · subst h; left; simp
  · simp only [Value.slice.injEq] at h2
    refine .inr ⟨b, 0, h1, h2.1, fun i hi => ?_⟩
    rw [Nat.zero_add, cell_of_row _ _ _ _ _ _ h3, h5 i (by omega), List.getElem?_take, if_pos (by omega)]
theorem FullAt.suf {w : World} {r : Option Nat} {b : Nat} {n m : Nat} {xs : List Value} (h : FullAt w r (.slice (some ⟨b, 0, none⟩) n m) xs) (k c : Nat) (a : Option Addr) (hk : k ≤ xs.length) (ha : k < xs.length → a = some ⟨b, k, none⟩) : Lies w r (.slice a (xs.length - k) c) (xs.drop k) := by
  have hl : (xs.drop k).length = xs.length - k := by simp
  refine ⟨a, c, by rw [hl], ?_⟩
  by_cases h0 : xs.length - k = 0
  · left; rw [hl]; exact h0
  · rcases h with ⟨h, _⟩ | ⟨b', h1, h2, cur, h3, h4, h5⟩
    · cases h
    · simp only [Value.slice.injEq, Option.some.injEq, Addr.mk.injEq] at h2
      obtain ⟨⟨rfl, _⟩, _⟩ := h2
      refine .inr ⟨b, k, h1, ha (by omega), fun i hi => ?_⟩
      rw [cell_of_row _ _ _ _ _ _ h3, h5 (k + i) (by omega), List.getElem?_drop]
/-- The queue's row lies from B on. -/
def GoFrom (B : Nat) (go : Option Nat) : Prop := ∀ k, go = some k → B ≤ k
theorem GoFrom.put {B : Nat} {w : World} {go : Option Nat} {g : Nat} (h : GoFrom B go) (hB : B ≤ w.heap.size) (hg : some g = go ∨ w.heap.size ≤ g) : GoFrom B (some g) := fun k hk => by
  obtain rfl := Option.some.inj hk
  rcases hg with hg | hg
  · exact h g hg.symm
  · omega
theorem GoFrom.take {B : Nat} {go nq : Option Nat} (h : GoFrom B go) (hn : nq = go ∨ nq = none) : GoFrom B nq := fun k hk => by
  rcases hn with rfl | rfl
  · exact h k hk
  · cases hk
/-- Where a result lies that the queue no longer touches. -/
def Apart (w : World) (q : Nat) (go r : Option Nat) : Prop := ∀ k, r = some k → k < w.heap.size ∧ k ≠ q ∧ some k ≠ go
theorem Apart.put {w w' : World} {q g : Nat} {go r : Option Nat} (h : Apart w q go r) (ht : Touch w w' q go) (hg : some g = go ∨ w.heap.size ≤ g) : Apart w' q (some g) r := fun k hk => by
  obtain ⟨h1, h2, h3⟩ := h k hk
  refine ⟨Nat.lt_of_lt_of_le h1 ht.size, h2, ?_⟩
  rcases hg with hg | hg
  · rw [hg]; exact h3
  · intro e; have := Option.some.inj e; omega
theorem Apart.take {w w' : World} {q : Nat} {go nq r : Option Nat} (h : Apart w q go r) (ht : Touch w w' q go) (hn : nq = go ∨ nq = none) : Apart w' q nq r := fun k hk => by
  obtain ⟨h1, h2, h3⟩ := h k hk
  refine ⟨Nat.lt_of_lt_of_le h1 ht.size, h2, ?_⟩
  rcases hn with rfl | rfl
  · exact h3
  · simp
theorem Lies.apart {w w' : World} {r go : Option Nat} {q : Nat} {v : Value} {xs : List Value} (h : Lies w r v xs) (ht : Touch w w' q go) (ha : Apart w q go r) : Lies w' r v xs :=
  h.touch ht (fun k hk => (ha k hk).2)

set_option maxHeartbeats 2000000 in
set_option maxRecDepth 100000 in
theorem lawA_main (w : World) (r0 r1 r3 : Option Nat) (v0 v1 v3 : Value) (hs0 hs1 hs3 : List Value) (L0 L1 L3 : List (List Int)) (n : Int)
    (h0 : Lies w r0 v0 hs0) (m0 : MsgsAt w hs0 L0) (h1 : Lies w r1 v1 hs1) (m1 : MsgsAt w hs1 L1) (h3 : Lies w r3 v3 hs3) (m3 : MsgsAt w hs3 L3) :
    Calls Try.prog 3 #[v0, v1, .int .i64 n, v3] w fun e w' => e = .returned (.bool true) ∧ Below w.heap.size w w' := by
  obtain ⟨a0, c0, rfl, _⟩ := h0.open
  obtain ⟨a1, c1, rfl, _⟩ := h1.open
  obtain ⟨a3, c3, rfl, _⟩ := h3.open
  go_enter Try.func3, Try.ntmps3
  go_wp2_with fail
  refine (bytes7 w r0 _ hs0 L0 r1 _ hs1 L1 r3 _ hs3 L3 n h0 m0 h1 m1 h3 m3).mono ?_
  rintro e w' ⟨⟨b, rfl⟩, rfl⟩
  cases b
  · go_wp2_with fail
    go_ret
    exact ⟨rfl, Below.refl _ _⟩
  go_wp2_with fail
  refine (addSize _ _ r0 _ hs0 L0 h0 m0 (by omega) (by omega)).mono ?_
  rintro e w' ⟨u0, rfl, rfl, hu0, hu0', hu0''⟩
  go_wp2_with fail
  refine (addSize _ _ r1 _ hs1 L1 h1 m1 hu0 hu0').mono ?_
  rintro e w' ⟨u1, rfl, rfl, hu1, hu1', hu1''⟩
  go_wp2_with fail
  refine (addSize _ _ r3 _ hs3 L3 h3 m3 hu1 hu1').mono ?_
  rintro e w' ⟨u3, rfl, rfl, hu3, hu3', hu3''⟩
  by_cases hbig : u3 ≤ 1048576
  rotate_left
  · go_wp2_with fail
    go_ret
    exact ⟨rfl, Below.refl _ _⟩
  by_cases hn : 0 ≤ n
  rotate_left
  · go_wp2_with fail
    go_ret
    exact ⟨rfl, Below.refl _ _⟩
  have hB3 := hu3'' hbig
  have hB1 := hu1'' (by omega)
  have hB0 := hu0'' (by omega)
  have b0 : ∀ b ∈ L0, b.length ≤ 1048576 := fun b hb => by have := mem_le_total L0 b hb; omega
  have b1 : ∀ b ∈ L1, b.length ≤ 1048576 := fun b hb => by have := mem_le_total L1 b hb; omega
  have b3 : ∀ b ∈ L3, b.length ≤ 1048576 := fun b hb => by have := mem_le_total L3 b hb; omega
  have l0 : L0.length + L1.length + L3.length ≤ 131072 := by omega
  clear hB3 hB1 hB0 hu0 hu0' hu0'' hu1 hu1' hu1'' hu3 hu3' hu3''
  -- the six copies
  go_wp2_with fail
  refine (cloneMsgs _ r0 _ hs0 L0 h0 m0 (by omega) b0).mono ?_
  rintro e w1 ⟨x1, rw1, hsW0, rfl, hb1, hf1, hr1, hm1⟩
  go_wp2_with fail
  refine (cloneMsgs _ r1 _ hs1 L1 (h1.later hb1) (m1.later hb1) (by omega) b1).mono ?_
  rintro e w2 ⟨x2, rw2, hsW1, rfl, hb2, hf2, hr2, hm2⟩
  have hB2 := hb1.trans (hb2.mono hb1.size)
  go_wp2_with fail
  refine (cloneMsgs _ r3 _ hs3 L3 (h3.later hB2) (m3.later hB2) (by omega) b3).mono ?_
  rintro e w3 ⟨x3, rw3, hsW3, rfl, hb3, hf3, hr3, hm3⟩
  have hB3 := hB2.trans (hb3.mono hB2.size)
  go_wp2_with fail
  refine (cloneMsgs _ r0 _ hs0 L0 (h0.later hB3) (m0.later hB3) (by omega) b0).mono ?_
  rintro e w4 ⟨x4, rw4, hsM0, rfl, hb4, hf4, hr4, hm4⟩
  have hB4 := hB3.trans (hb4.mono hB3.size)
  go_wp2_with fail
  refine (cloneMsgs _ r1 _ hs1 L1 (h1.later hB4) (m1.later hB4) (by omega) b1).mono ?_
  rintro e w5 ⟨x5, rw5, hsM1, rfl, hb5, hf5, hr5, hm5⟩
  have hB5 := hB4.trans (hb5.mono hB4.size)
  go_wp2_with fail
  refine (cloneMsgs _ r3 _ hs3 L3 (h3.later hB5) (m3.later hB5) (by omega) b3).mono ?_
  rintro e w6 ⟨x6, rw6, hsM3, rfl, hb6, hf6, hr6, hm6⟩
  have hB6 := hB5.trans (hb6.mono hB5.size)
  -- all of them, at the last world
  have d56 := hb6
  have d46 := hb5.trans (hb6.mono hb5.size)
  have d36 := hb4.trans (d46.mono hb4.size)
  have d26 := hb3.trans (d36.mono hb3.size)
  have d16 := hb2.trans (d26.mono hb2.size)
  have f1 := hf1.later d16
  have f2 := hf2.later d26
  have f3 := hf3.later d36
  have f4 := hf4.later d46
  have f5 := hf5.later d56
  have g1 := hm1.at.later d16
  have g2 := hm2.at.later d26
  have g3 := hm3.at.later d36
  have g4 := hm4.at.later d46
  have g5 := hm5.at.later d56
  have g6 := hm6.at
  have HB := hid hB6
  clear hf1 hf2 hf3 hf4 hf5 hm1 hm2 hm3 hm4 hm5 hm6 hr1 hr2 hr3 hr4 hr5 hr6 hb1 hb2 hb3 hb4 hb5 hb6 hB2 hB3 hB4 hB5 hB6 d16 d26 d36 d46 d56 h0 h1 h3 m0 m1 m3
  go_wp2_with fail
  refine (newQueue _).mono ?_
  rintro e w7 ⟨rfl, hb7, hq7⟩
  go_wp2_with fail
  have hMl := g4.1
  have hRl := g6.1
  have HM := hid hMl
  have HR := hid hRl
  clear hMl hRl
  go_loopw [13] (fun t w' => ∃ k : Nat, k ≤ L0.length ∧ t = .int .i64 k ∧ Below w6.heap.size w6 w' ∧ ∃ qv go, QAt w' w6.heap.size qv go (hsM0.take k) ∧ GoFrom w6.heap.size go) (fun t _ => L0.length - (intOf t).toNat)
  case atStart => exact ⟨0, by omega, rfl, hb7, _, none, hq7, fun k hk => by cases hk⟩
  case round =>
    obtain ⟨k, hk, rfl, hbel, qv, go, hq, hgo⟩ := hrel
    by_cases hlt : k < L0.length
    · have hkM : k < hsM0.length := by rw [HM.out]; exact hlt
      obtain ⟨b, hx4, hcell⟩ := (f4.later hbel).cell k hkM
      subst hx4
      obtain ⟨p1, p2, p3, e1⟩ := g4.shape _ (List.getElem_mem hkM)
      have HX := hid (List.take_succ_eq_append_getElem hkM)
      have HE := hid e1
      rw [e1] at hcell
      clear e1
      have i1 : (k : Int) < (L0.length : Int) := by omega
      go_wp2_with (go_at_call 11; refine (put_any _ _ qv go _ _ _ _ hq (by simp; omega)).mono ?_; rintro e w8 ⟨rfl, qv', g', hq', ht', hg'⟩)
      go_roundw
      case rel => exact ⟨k + 1, by omega, by go_num, hbel.trans (ht'.below hbel.size (Nat.le_refl _) hgo), qv', some g', by rw [HX.out, HE.out]; exact hq', hgo.put hbel.size hg'⟩
      case measure => simp [intOf]; omega
    · obtain rfl : k = L0.length := by omega
      rw [List.take_of_length_le (by rw [HM.out]; exact Nat.le_refl _)] at hq
      obtain ⟨wA, rfl⟩ : ∃ wA : World, wA = wr := ⟨_, rfl⟩
      go_wp2_with fail
      refine (take_any _ _ qv go hsM0 rw5 _ hsM1 n hq (f5.later hbel) (fun e => by have := f5.lt _ e; omega) hn (by rw [HM.out, g5.1]; omega)).mono ?_
      rintro e w8 ⟨y1, y2, rt, rfl, hl8, hrt, ⟨qv8, go8, hq8, hgo8⟩, ht8⟩
      have hbel8 := hbel.trans (ht8.below hbel.size (Nat.le_refl _) hgo)
      have hap8 : Apart w8 w6.heap.size go8 rt := fun k hk => by
        rcases hrt with rfl | ⟨rfl, hsz⟩
        · have h1 := f5.lt k hk
          have h2 := hbel8.size
          refine ⟨by omega, by omega, fun e => ?_⟩
          have := (hgo.take hgo8) k e.symm
          omega
        · obtain rfl := Option.some.inj hk
          have h1 : w6.heap.size < wA.heap.size := (Array.getElem?_eq_some_iff.1 hq.1).1
          refine ⟨hsz, by omega, fun e => ?_⟩
          rcases hgo8 with rfl | rfl
          · have := hq.2.1.lt _ e.symm; omega
          · cases e
      have hgoF := hgo.take hgo8
      clear hrt hgo8 hq ht8 hgo hbel
      generalize Value.slice y1 (hsM1 ++ List.take n.toNat hsM0).length y2 = V1 at *
      go_wp2_with fail
      go_loopw [15] (fun t w' => ∃ k : Nat, k ≤ L3.length ∧ t = .int .i64 k ∧ Below w6.heap.size w6 w' ∧ Lies w' rt V1 (hsM1 ++ List.take n.toNat hsM0) ∧ ∃ qv go, QAt w' w6.heap.size qv go (hsM0.drop n.toNat ++ hsM3.take k) ∧ GoFrom w6.heap.size go ∧ Apart w' w6.heap.size go rt) (fun t _ => L3.length - (intOf t).toNat)
      case atStart => exact ⟨0, by omega, rfl, hbel8, hl8, qv8, go8, by rw [List.take_zero, List.append_nil]; exact hq8, hgoF, hap8⟩
      case round =>
        obtain ⟨k, hk, rfl, hbel, hl, qv, go, hq, hgo, hap⟩ := hrel
        by_cases hlt : k < L3.length
        · have hkM : k < hsM3.length := by rw [HR.out]; exact hlt
          obtain ⟨b, hx6, hcell⟩ := (hf6.later hbel).cell k hkM
          subst hx6
          obtain ⟨p1, p2, p3, e1⟩ := g6.shape _ (List.getElem_mem hkM)
          have HX := hid (List.take_succ_eq_append_getElem hkM)
          have HE := hid e1
          rw [e1] at hcell
          clear e1
          have hlen : (hsM0.drop n.toNat ++ hsM3.take k).length ≤ 4194304 := by have h1 := HM.out; have h2 := HR.out; simp; omega
          have i1 : (k : Int) < (L3.length : Int) := by omega
          go_wp2_with (go_at_call 11; refine (put_any _ _ qv go _ _ _ _ hq hlen).mono ?_; rintro e w9 ⟨rfl, qv', g', hq', ht', hg'⟩)
          go_roundw
          case rel => exact ⟨k + 1, by omega, by go_num, hbel.trans (ht'.below hbel.size (Nat.le_refl _) hgo), hl.apart ht' hap, qv', some g', by rw [HX.out, HE.out, ← List.append_assoc]; exact hq', hgo.put hbel.size hg', hap.put ht' hg'⟩
          case measure => simp [intOf]; omega
        · obtain rfl : k = L3.length := by omega
          rw [List.take_of_length_le (by rw [HR.out]; exact Nat.le_refl _)] at hq
          obtain ⟨wB, rfl⟩ : ∃ wB : World, wB = wr := ⟨_, rfl⟩
          have hlen : (hsM0.drop n.toNat ++ hsM3).length ≤ L0.length + L3.length := by have h1 := HM.out; have h2 := HR.out; simp; omega
          go_wp2_with fail
          refine (take_any _ _ qv go (hsM0.drop n.toNat ++ hsM3) none (.slice none 0 0) [] _ hq (.inl ⟨rfl, rfl, rfl⟩) (by simp) (by omega) (by simp only [List.length_nil]; omega)).mono ?_
          have e1 : (hsM0.drop n.toNat ++ hsM3).take ((L0.length : Int) + (L3.length : Int)).toNat = hsM0.drop n.toNat ++ hsM3 := List.take_of_length_le (by omega)
          have e2 : (hsM0.drop n.toNat ++ hsM3).drop ((L0.length : Int) + (L3.length : Int)).toNat = [] := List.drop_of_length_le (by omega)
          rw [List.nil_append, e1, e2]
          clear e1 e2
          rintro e w10 ⟨y3, y4, rt2, rfl, hl10, hrt2, ⟨qv10, go10, hq10, hgo10⟩, ht10⟩
          have hbel10 := hbel.trans (ht10.below hbel.size (Nat.le_refl _) hgo)
          have hl1 := hl.apart ht10 hap
          have hap1 := hap.take ht10 hgo10
          have hap2 : Apart w10 w6.heap.size go10 rt2 := fun k hk => by
            rcases hrt2 with rfl | ⟨rfl, hsz⟩
            · cases hk
            · obtain rfl := Option.some.inj hk
              have h1 : w6.heap.size < wB.heap.size := (Array.getElem?_eq_some_iff.1 hq.1).1
              refine ⟨hsz, by omega, fun e => ?_⟩
              rcases hgo10 with rfl | rfl
              · have := hq.2.1.lt _ e.symm; omega
              · cases e
          have hgo10' := hgo.take hgo10
          clear hrt2 hgo10 hq ht10 hgo hbel hl hap hl8 hbel8 hap8 hgoF hq8
          generalize Value.slice y3 (List.drop n.toNat hsM0 ++ hsM3).length y4 = V2 at *
          go_wp2_with fail
          refine (take_any _ _ qv10 go10 [] none (.slice none 0 0) [] _ hq10 (.inl ⟨rfl, rfl, rfl⟩) (by simp) (by omega) (by simp)).mono ?_
          rintro e w11 ⟨y5, y6, rt3, rfl, _, _, ⟨qv11, go11, hq11, hgo11⟩, ht11⟩
          have hl2 := hl10.apart ht11 hap2
          have hl1' := hl1.apart ht11 hap1
          have hbel11 := hbel10.trans (ht11.below hbel10.size (Nat.le_refl _) hgo10')
          clear hl1 hl10 hap1 hap2 hgo10' hbel10 hq10 ht11 hq11 hgo11
          have hMW := g1.1
          have hkn : (min n (L0.length : Int)).toNat ≤ L0.length := by omega
          have hf1' := f1.later hbel11
          have hcut : ∃ kk, kk ≤ L0.length ∧ (min n (L0.length : Int)) = (kk : Int) ∧ L0.take kk = L0.take n.toNat ∧ L0.drop kk = L0.drop n.toNat := by
            refine ⟨(min n (L0.length : Int)).toNat, hkn, by omega, ?_, ?_⟩
            · by_cases h : n ≤ (L0.length : Int)
              · rw [Int.min_eq_left h]
              · rw [List.take_of_length_le (by omega), List.take_of_length_le (by omega)]
            · by_cases h : n ≤ (L0.length : Int)
              · rw [Int.min_eq_left h]
              · rw [List.drop_of_length_le (by omega), List.drop_of_length_le (by omega)]
          obtain ⟨kk, hkk, hmin, htake, hdrop⟩ := hcut
          have HMW := hid hMW
          have HTK := hid htake
          have HDR := hid hdrop
          have HMIN := hid hmin
          clear hMW htake hdrop hkn hmin
          by_cases hke : kk = L0.length
          · subst hke
            go_wp2_with fail
            refine (zzMin_any _ _ _).mono ?_
            rw [HMIN.out]
            rintro e w' ⟨rfl, rfl⟩
            go_wp2_with fail
            have hj1 := hf1'.pre L0.length (by rw [HMW.out]; omega)
            refine (join _ rw2 rw1 _ _ hsW1 (hsW0.take L0.length) (f2.later hbel11).lies hj1 (by rw [g2.1]; omega) (by simp; omega) g2.shape (fun x hx => g1.shape x (List.mem_of_mem_take hx))).mono ?_
            rintro e w12 ⟨z1, z2, rfl, hb12, hl12⟩
            have hbel12 := hbel11.trans (hb12.mono hbel11.size)
            generalize Value.slice z1 (hsW1 ++ List.take L0.length hsW0).length z2 = V3 at *
            go_wp2_with fail
            refine (eqMsgs_true _ rt _ V1 V3 _ _ (L1 ++ L0.take n.toNat) (L1 ++ L0.take L0.length) (hl1'.later hb12) hl12 ((g5.later hbel12).append ((g4.later hbel12).take _)) ((g2.later hbel12).append ((g1.later hbel12).take _)) (by rw [HTK.out]) (by simp; omega) (fun b hb => ?_)).mono ?_
            · rcases List.mem_append.1 hb with hb | hb
              · have := b1 b hb; omega
              · have := b0 b (List.mem_of_mem_take hb); omega
            rintro e w13 ⟨rfl, n13, hw13⟩
            have hb13 : Below w12.heap.size w12 w13 := by rw [hw13]; exact below_drewN (Below.refl _ _) _
            have hbel13 := hbel12.trans (hb13.mono hbel12.size)
            clear hw13
            go_wp2_with fail
            have hsuf : Lies w13 rw1 (.slice x1 0 0) (hsW0.drop L0.length) := ⟨x1, 0, by rw [List.drop_of_length_le (by rw [HMW.out]; exact Nat.le_refl _)]; rfl, .inl (by simp [HMW.out])⟩
            refine (join _ rw1 rw3 _ _ (hsW0.drop L0.length) hsW3 hsuf (f3.later hbel13).lies (by have := HMW.out; simp; omega) (by rw [g3.1]; omega) (fun x hx => g1.shape x (List.mem_of_mem_drop hx)) g3.shape).mono ?_
            rintro e w14 ⟨z3, z4, rfl, hb14, hl14⟩
            have hbel14 := hbel13.trans (hb14.mono hbel13.size)
            generalize Value.slice z3 (List.drop L0.length hsW0 ++ hsW3).length z4 = V4 at *
            go_wp2_with fail
            refine (eqMsgs_true _ rt2 _ V2 V4 _ _ (L0.drop n.toNat ++ L3) (L0.drop L0.length ++ L3) (((hl2.later hb12).later hb13).later hb14) hl14 (((g4.later hbel14).drop _).append (g6.later hbel14)) (((g1.later hbel14).drop _).append (g3.later hbel14)) (by rw [HDR.out]) (by simp; omega) (fun b hb => ?_)).mono ?_
            · rcases List.mem_append.1 hb with hb | hb
              · have := b0 b (List.mem_of_mem_drop hb); omega
              · have := b3 b hb; omega
            rintro e w15 ⟨rfl, n15, rfl⟩
            go_wp2
            go_ret
            exact ⟨rfl, below_drewN (HB.out.trans (hbel14.mono HB.out.size)) _⟩
          · obtain ⟨bb, hx1, _⟩ := f1.cell 0 (by rw [HMW.out]; omega)
            subst hx1
            go_wp2_with fail
            refine (zzMin_any _ _ _).mono ?_
            rw [HMIN.out]
            rintro e w' ⟨rfl, rfl⟩
            go_wp2_with fail
            have hj1 := hf1'.pre kk (by rw [HMW.out]; omega)
            refine (join _ rw2 rw1 _ _ hsW1 (hsW0.take kk) (f2.later hbel11).lies hj1 (by rw [g2.1]; omega) (by simp; omega) g2.shape (fun x hx => g1.shape x (List.mem_of_mem_take hx))).mono ?_
            rintro e w12 ⟨z1, z2, rfl, hb12, hl12⟩
            have hbel12 := hbel11.trans (hb12.mono hbel11.size)
            generalize Value.slice z1 (hsW1 ++ List.take kk hsW0).length z2 = V3 at *
            go_wp2_with fail
            refine (eqMsgs_true _ rt _ V1 V3 _ _ (L1 ++ L0.take n.toNat) (L1 ++ L0.take kk) (hl1'.later hb12) hl12 ((g5.later hbel12).append ((g4.later hbel12).take _)) ((g2.later hbel12).append ((g1.later hbel12).take _)) (by rw [HTK.out]) (by simp; omega) (fun b hb => ?_)).mono ?_
            · rcases List.mem_append.1 hb with hb | hb
              · have := b1 b hb; omega
              · have := b0 b (List.mem_of_mem_take hb); omega
            rintro e w13 ⟨rfl, n13, hw13⟩
            have hb13 : Below w12.heap.size w12 w13 := by rw [hw13]; exact below_drewN (Below.refl _ _) _
            have hbel13 := hbel12.trans (hb13.mono hbel12.size)
            clear hw13
            go_wp2_with fail
            have hsuf := (f1.later hbel13).suf kk (L0.length - kk) (some ⟨bb, kk, none⟩) (by rw [HMW.out]; omega) (fun _ => rfl)
            rw [HMW.out] at hsuf
            refine (join _ rw1 rw3 _ _ (hsW0.drop kk) hsW3 hsuf (f3.later hbel13).lies (by have := HMW.out; simp; omega) (by rw [g3.1]; omega) (fun x hx => g1.shape x (List.mem_of_mem_drop hx)) g3.shape).mono ?_
            rintro e w14 ⟨z3, z4, rfl, hb14, hl14⟩
            have hbel14 := hbel13.trans (hb14.mono hbel13.size)
            generalize Value.slice z3 (List.drop kk hsW0 ++ hsW3).length z4 = V4 at *
            go_wp2_with fail
            refine (eqMsgs_true _ rt2 _ V2 V4 _ _ (L0.drop n.toNat ++ L3) (L0.drop kk ++ L3) (((hl2.later hb12).later hb13).later hb14) hl14 (((g4.later hbel14).drop _).append (g6.later hbel14)) (((g1.later hbel14).drop _).append (g3.later hbel14)) (by rw [HDR.out]) (by simp; omega) (fun b hb => ?_)).mono ?_
            · rcases List.mem_append.1 hb with hb | hb
              · have := b0 b (List.mem_of_mem_drop hb); omega
              · have := b3 b hb; omega
            rintro e w15 ⟨rfl, n15, rfl⟩
            go_wp2
            go_ret
            exact ⟨rfl, below_drewN (HB.out.trans (hbel14.mono HB.out.size)) _⟩
end Go.Proofs.Qxb6613772a
