import Derived.Test.Qxb6613041aLaw3
namespace Go.Proofs.Qxb6613041a
open Go.RowKit
set_option linter.unusedVariables false
set_option linter.unusedSimpArgs false

theorem zzb4_yes (w : World) (a1 a2 : Option Addr) (n1 c1 n2 c2 : Nat) (p pp f g : Int) (A B C D : Array Value) (hA : A.size = 16) (hB : B.size = 16) (hC : C.size = 2) (hD : D.size = 6) (h : n1 + n2 ≤ 1048576) :
    Calls Try.prog 9 #[.slice a1 n1 c1, .int .u16 p, .slice a2 n2 c2, .agg A, .agg B, .int .u16 pp, .agg C, .agg D, .int .i64 f, .int .i64 g] w fun e w' => e = .returned (.bool true) ∧ Below w.heap.size w w' := by
  go_enter Try.func9, Try.ntmps9
  go_wp2
  go_ret
  exact ⟨rfl, (((((Below.refl _ _).alloc (Nat.le_refl _) _).alloc (by simp) _).alloc (by simp; omega) _).alloc (by simp; omega) _)⟩
theorem zzb4_no (w : World) (a1 a2 : Option Addr) (n1 c1 n2 c2 : Nat) (p pp f g : Int) (A B C D : Array Value) (hA : A.size = 16) (hB : B.size = 16) (hC : C.size = 2) (hD : D.size = 6) (h : ¬ n1 + n2 ≤ 1048576) :
    Calls Try.prog 9 #[.slice a1 n1 c1, .int .u16 p, .slice a2 n2 c2, .agg A, .agg B, .int .u16 pp, .agg C, .agg D, .int .i64 f, .int .i64 g] w fun e w' => e = .returned (.bool false) ∧ Below w.heap.size w w' := by
  go_enter Try.func9, Try.ntmps9
  go_wp2
  all_goals
    go_ret
    exact ⟨rfl, (((((Below.refl _ _).alloc (Nat.le_refl _) _).alloc (by simp) _).alloc (by simp; omega) _).alloc (by simp; omega) _)⟩

theorem drewN_of {w w' : World} {n m : Nat} (h : w' = w.drewN n) : w'.drewN m = w.drewN (n + m) := by rw [h, World.drewN_drewN]
def zeros : List Value := List.replicate 16 (.int .u8 0)
theorem zeros_at (i : Nat) (h : i < 16) : zeros[i]? = some (.int .u8 0) := by unfold zeros; rw [List.getElem?_replicate, if_pos h]
theorem zeros_lit : zeros.toArray = #[.int .u8 0, .int .u8 0, .int .u8 0, .int .u8 0, .int .u8 0, .int .u8 0, .int .u8 0, .int .u8 0, .int .u8 0, .int .u8 0, .int .u8 0, .int .u8 0, .int .u8 0, .int .u8 0, .int .u8 0, .int .u8 0] := rfl

set_option maxHeartbeats 1000000 in
set_option maxRecDepth 100000 in
theorem law4_main (w : World) (a1 a2 : Option Addr) (n1 c1 n2 c2 : Nat) (p pp f g : Int) (s t tq tp : Nat → Int) (tee pl X D : List Value)
    (htl : tee.length = 16) (hpl : pl.length = 16) (hXl : X.length = 2) (hDl : D.length = 6) (h1 : Reads w a1 n1 s) (h2 : Reads w a2 n2 t) (ht : ∀ i, i < 16 → tee[i]? = some (.int .u8 (tq i))) (hp : ∀ i, i < 16 → pl[i]? = some (.int .u8 (tp i)))
    (hn1 : n1 ≤ 65536) (hn2 : n2 ≤ 65536) (hs : 16 ≤ n1) (hf0 : 0 ≤ f) (hg0 : 0 ≤ g) (hf : min f g < 16 → 16 ≤ n2) :
    Calls Try.prog 4 #[.slice a1 n1 c1, .int .u16 p, .slice a2 n2 c2, .agg tee.toArray, .agg pl.toArray, .int .u16 pp, .agg X.toArray, .agg D.toArray, .int .i64 f, .int .i64 g] w fun e w' => e = .returned (.bool true) ∧ Below w.heap.size w w' := by
  have hi24 : (Try.prog.info? 24).map (·.size) = some tee.length := by rw [htl]; exact info24
  have hi24' : (Try.prog.info? 24).map (·.size) = some pl.length := by rw [hpl]; exact info24
  have hi25 : (Try.prog.info? 25).map (·.size) = some X.length := by rw [hXl]; exact info25
  have hi26 : (Try.prog.info? 26).map (·.size) = some D.length := by rw [hDl]; exact info26
  obtain ⟨q0, q1, q2, q3⟩ := boxed_in w tee pl X D
  have hbel := boxed_below w tee pl X D
  have hsum : n1 + n2 ≤ 1048576 := by omega
  have hc1' : ∃ b1 o1, a1 = some ⟨b1, o1, none⟩ ∧ ∀ i, i < n1 → w.cell? ⟨b1, o1 + i, none⟩ = some (.int .u8 (s i)) := by
    rcases h1 with h | h
    · omega
    · exact h
  obtain ⟨b1, o1, rfl, hc1⟩ := hc1'
  have HC1 := hid hc1
  clear hc1
  have HT := hid ht
  have HP := hid hp
  clear ht hp
  obtain ⟨lo, hlo⟩ : ∃ lo, lo = min f g := ⟨_, rfl⟩
  obtain ⟨hi, hhi⟩ : ∃ hi, hi = max f g := ⟨_, rfl⟩
  have hlh : lo ≤ hi := by omega
  have hlo0 : 0 ≤ lo := by omega
  rw [← hlo] at hf
  have HLO := hid hlo
  have HHI := hid hhi
  clear hlo hhi
  go_enter Try.func4, Try.ntmps4
  go_upto_if 62 with (first | ((with_reducible show wpList _ _ _ (Oper.mk _ (Op.load 24 (.tmp 13)) _ _ _ _ :: _) _ _); refine wpList_load_mid rfl 24 _ rfl (w.heap.size) 0 (by rfl) tee _ (by assumption) Try.underlying24 rfl hi24 ?_) | ((with_reducible show wpList _ _ _ (Oper.mk _ (Op.load 24 (.tmp 14)) _ _ _ _ :: _) _ _); refine wpList_load_mid rfl 24 _ rfl (w.heap.size + 1) 0 (by rfl) pl _ (by assumption) Try.underlying24 rfl hi24' ?_) | ((with_reducible show wpList _ _ _ (Oper.mk _ (Op.load 25 (.tmp 16)) _ _ _ _ :: _) _ _); refine wpList_load_mid rfl 25 _ rfl (w.heap.size + 1 + 1) 0 (by rfl) X _ (by assumption) Try.underlying25 rfl hi25 ?_) | ((with_reducible show wpList _ _ _ (Oper.mk _ (Op.load 26 (.tmp 17)) _ _ _ _ :: _) _ _); refine wpList_load_mid rfl 26 _ rfl (w.heap.size + 1 + 1 + 1) 0 (by rfl) D _ (by assumption) Try.underlying26 rfl hi26 ?_) | (go_at_call 9; refine (zzb4_yes _ _ _ _ _ _ _ _ _ _ _ _ _ _ _ (by simpa using htl) (by simpa using hpl) (by simpa using hXl) (by simpa using hDl) hsum).mono ?_; rintro e w1 ⟨rfl, hb1⟩))
  go_cut [21, 22] (fun a b w' => a = .int .i64 lo ∧ b = .int .i64 hi ∧ w1 = w')
  case first =>
    by_cases hgf : g < f
    · go_wp2
      go_meet
      case rel => exact ⟨congrArg (Value.int .i64) (by rw [HLO.out]; omega), congrArg (Value.int .i64) (by rw [HHI.out]; omega), rfl⟩
    · go_wp2
      go_meet
      case rel => exact ⟨congrArg (Value.int .i64) (by rw [HLO.out]; omega), congrArg (Value.int .i64) (by rw [HHI.out]; omega), rfl⟩
  case rest =>
  obtain ⟨rfl, rfl, rfl⟩ := hcut
  go_upto_region 12 with fail
  go_cut [76] (fun v w' => v = .bool false ∧ w1 = w')
  case first =>
    by_cases hf16 : lo < 16
    · have hn2' := hf hf16
      go_wp2
      go_meet
      case rel => exact ⟨congrArg Value.bool (by simp; omega), rfl⟩
    · go_wp2
      go_meet
      case rel => exact ⟨congrArg Value.bool (by simp; omega), rfl⟩
  case rest =>
  obtain ⟨rfl, rfl⟩ := hcut
  have hW1 := hbel.trans (hb1.mono hbel.size)
  have u0 := range_later q0 hb1
  have u1 := range_later q1 hb1
  have u2 := range_later q2 hb1
  have u3 := range_later q3 hb1
  clear q0 q1 q2 q3 hbel hb1
  generalize w.heap.size + 1 + 1 + 1 = H3 at *
  generalize w.heap.size + 1 + 1 = H2 at *
  generalize w.heap.size + 1 = H1 at *
  go_wp2_with (first | ((with_reducible show wpList _ _ _ (Oper.mk _ (Op.load 24 (.tmp 13)) _ _ _ _ :: _) _ _); refine wpList_load_mid rfl 24 _ rfl (w.heap.size) 0 (by rfl) tee _ (by assumption) Try.underlying24 rfl hi24 ?_) | ((with_reducible show wpList _ _ _ (Oper.mk _ (Op.load 24 (.tmp 14)) _ _ _ _ :: _) _ _); refine wpList_load_mid rfl 24 _ rfl (H1) 0 (by rfl) pl _ (by assumption) Try.underlying24 rfl hi24' ?_) | ((with_reducible show wpList _ _ _ (Oper.mk _ (Op.load 25 (.tmp 16)) _ _ _ _ :: _) _ _); refine wpList_load_mid rfl 25 _ rfl (H2) 0 (by rfl) X _ (by assumption) Try.underlying25 rfl hi25 ?_) | ((with_reducible show wpList _ _ _ (Oper.mk _ (Op.load 26 (.tmp 17)) _ _ _ _ :: _) _ _); refine wpList_load_mid rfl 26 _ rfl (H3) 0 (by rfl) D _ (by assumption) Try.underlying26 rfl hi26 ?_) | (go_at_call 6; refine (buildLevel _ _ _ _ _ _ _ _ s t (h1.later hW1) (h2.later hW1) hn1 hn2 (by omega)).mono ?_; rintro e w2 ⟨rfl, hb2, hlv⟩; have t0 := range_later u0 hb2; have t1 := range_later u1 hb2; have t2 := range_later u2 hb2; have t3 := range_later u3 hb2) | (go_at_call 8; refine (newPlat _ _ _ _ tp (by simpa using hpl) (fun i hi => by simpa using HP.out i hi) (by simpa using hXl) (by simpa using hDl) _).mono ?_; rintro e w3 ⟨rfl, hb3, hpl3⟩; have x0 := range_later t0 hb3))
  have hlv3 := hlv.later hb3
  refine (zzreached _ _ _ n1 n2 p pp lo s t tp tq _ (by simpa using htl) (fun i hi => by simpa using HT.out i hi) hlv3 hpl3 hs hlo0 hf).mono ?_
  rintro e w4 ⟨rfl, hb4⟩
  have y0 := range_later x0 hb4
  go_wp2_with (first | ((with_reducible show wpList _ _ _ (Oper.mk _ (Op.load 24 (.tmp 13)) _ _ _ _ :: _) _ _); refine wpList_load_mid rfl 24 _ rfl (w.heap.size) 0 (by rfl) tee _ (by assumption) Try.underlying24 rfl hi24 ?_) | ((with_reducible show wpList _ _ _ (Oper.mk _ (Op.load 24 (.tmp 14)) _ _ _ _ :: _) _ _); refine wpList_load_mid rfl 24 _ rfl (H1) 0 (by rfl) pl _ (by assumption) Try.underlying24 rfl hi24' ?_) | ((with_reducible show wpList _ _ _ (Oper.mk _ (Op.load 25 (.tmp 16)) _ _ _ _ :: _) _ _); refine wpList_load_mid rfl 25 _ rfl (H2) 0 (by rfl) X _ (by assumption) Try.underlying25 rfl hi25 ?_) | ((with_reducible show wpList _ _ _ (Oper.mk _ (Op.load 26 (.tmp 17)) _ _ _ _ :: _) _ _); refine wpList_load_mid rfl 26 _ rfl (H3) 0 (by rfl) D _ (by assumption) Try.underlying26 rfl hi26 ?_))
  refine (zzreached _ _ _ n1 n2 p pp hi s t tp tq _ (by simpa using htl) (fun i hi => by simpa using HT.out i hi) (hlv3.later hb4) (hpl3.later hb4) hs (by omega) (fun h => hf (by omega))).mono ?_
  rintro e w5 ⟨rfl, hb5⟩
  have hB5 : Below w2.heap.size w2 w5 := (hb3.trans (hb4.mono hb3.size)).trans (hb5.mono (hb3.trans (hb4.mono hb3.size)).size)
  have z0 := range_later t0 hB5
  have z2 := range_later t2 hB5
  have z3 := range_later t3 hB5
  have hlv5 := hlv.later hB5
  have hW5 : Below w.heap.size w w5 := by
    have h12 := hW1.trans (hb2.mono hW1.size)
    exact h12.trans (hB5.mono h12.size)
  clear hB5 hb2 hb3 hb4 hb5 hlv hlv3 hpl3 u0 u1 u2 u3 t0 t1 t2 t3 x0 y0 hW1
  generalize w1.heap.size = bL at *
  go_wp2_with fail
  go_loopw [27, 28] (fun v27 v28 w' => ∃ (k : Int) (nb : Bool), lo ≤ k ∧ k ≤ hi ∧ (k ≤ 16 ∨ k = lo) ∧ v28 = .int .i64 k ∧ v27 = .bool nb ∧ (nb = true ↔ ∀ i : Nat, lo ≤ (i : Int) → (i : Int) < k → t i ≤ tq i) ∧ ∃ n, w' = w5.drewN n) (fun _ v28 _ => (16 - intOf v28).toNat)
  case atStart => exact ⟨lo, true, by omega, hlh, .inr rfl, rfl, rfl, ⟨fun _ i hi hi' => by omega, fun _ => rfl⟩, 0, rfl⟩
  case round =>
    obtain ⟨k, nb, hk1, hk2, hk3, rfl, rfl, hnb, n, rfl⟩ := hrel
    have HNB := hid hnb
    clear hnb
    by_cases hlt : k < hi ∧ k < 16
    · obtain ⟨hlt1, hlt2⟩ := hlt
      obtain ⟨k, rfl⟩ := Int.eq_ofNat_of_zero_le (show 0 ≤ k by omega)
      have hn2' := hf (by omega)
      have hc2' : ∃ b2 o2, a2 = some ⟨b2, o2, none⟩ ∧ ∀ i, i < n2 → w.cell? ⟨b2, o2 + i, none⟩ = some (.int .u8 (t i)) := by
        rcases h2 with h | h
        · omega
        · exact h
      obtain ⟨b2, o2, rfl, hc2⟩ := hc2'
      have hcs := cell_later hW5 (hc2 k (by omega))
      have hcr : w5.cell? ⟨w.heap.size, k, none⟩ = some (.int .u8 (tq k)) := by
        have := z0 k _ (HT.out k (by omega))
        rwa [Nat.zero_add] at this
      clear hc2
      have i1 : (k : Int) < 16 := by omega
      have i2 : (k : Int) < (n2 : Int) := by omega
      by_cases hc : tq k < t k
      · go_wp2
        go_quiet (fail)
        go_wp2
        go_roundw
        case rel => exact ⟨(k : Int) + 1, false, by omega, by omega, by omega, rfl, rfl, ⟨fun h => by simp at h, fun h => by have := h k (by omega) (by omega); omega⟩, _, by first | rfl | rw [World.drewN_drewN]⟩
        case measure => simp [intOf]; omega
      · go_wp2
        go_quiet (fail)
        go_wp2
        go_roundw
        case rel =>
          refine ⟨(k : Int) + 1, nb, by omega, by omega, by omega, rfl, rfl, ?_, _, by first | rfl | rw [World.drewN_drewN]⟩
          rw [HNB.out]
          constructor
          · intro h2 i hi hi'
            by_cases e : i = k
            · subst e; omega
            · exact h2 i hi (by omega)
          · intro h2 i hi hi'
            exact h2 i hi (by omega)
        case measure => simp [intOf]; omega
    · have HB : Hid ((reachedB p pp lo s tp t tq == (reachedB p pp hi s tp t tq && nb)) = true) := by
        unfold Hid
        rw [beq_iff_eq, Bool.eq_iff_iff, Bool.and_eq_true, reachedB_iff, reachedB_iff, HNB.out]
        constructor
        · rintro ⟨g1, g2, g3⟩
          exact ⟨⟨g1, g2, fun j hj hj' => g3 j hj (by omega)⟩, fun j hj hj' => g3 j (by omega) hj⟩
        · rintro ⟨⟨g1, g2, g3⟩, g4⟩
          refine ⟨g1, g2, fun j hj hj' => ?_⟩
          by_cases e : hi ≤ (j : Int)
          · exact g3 j hj e
          · exact g4 j hj' (by omega)
      obtain ⟨w6, rfl⟩ : ∃ w6 : World, w6 = w5.drewN n := ⟨_, rfl⟩
      go_wp2
      all_goals
        go_loopw [31] (fun v31 w' => ∃ (k : Nat) (R : List Value), k ≤ 16 ∧ v31 = .int .i64 k ∧ Below w5.heap.size w5 w' ∧
            w'.heap[w5.heap.size]? = some (.cells R.toArray 24 (0, 0)) ∧ R.length = 16 ∧ (∀ i, i < 16 → R[i]? = some (.int .u8 (if i < k then s i else 0))) ∧ w'.heap[w5.heap.size + 1]? = some (.cells zeros.toArray 24 (0, 0))) (fun v31 _ => 16 - (intOf v31).toNat)
        case atStart =>
          refine ⟨0, zeros, by omega, rfl, below_drewN (((Below.refl _ _).alloc (Nat.le_refl _) _).alloc (by simp) _) _, ?_, rfl, fun i hi => by rw [zeros_at i hi, if_neg (by omega)], heap_alloc2_new w5 _ _⟩
          exact (Below.heap_alloc (w5.alloc _) _ _ (by simp)).trans (heap_alloc_new w5 _)
        case round =>
          obtain ⟨k2, R, hk, rfl, hbel, hR, hRl, hRv, hT⟩ := hrel
          have hWr := hW5.trans (hbel.mono hW5.size)
          by_cases hlt : k2 < 16
          · have hcs := cell_later hWr (HC1.out k2 (by omega))
            have hcr : wr.cell? ⟨w5.heap.size, k2, none⟩ = some (.int .u8 0) := by
              rw [cell_of_row _ _ _ _ _ _ hR]
              have := hRv k2 hlt
              rw [if_neg (by omega)] at this
              simpa using this
            have hfr := frozen_of_row wr w5.heap.size k2 _ _ hR
            have HR := hid hR
            have HT' := hid hT
            have HRv := hid hRv
            clear hR hT hRv
            have i1 : (k2 : Int) < 16 := by omega
            have i2 : (k2 : Int) < (n1 : Int) := by omega
            go_wp2
            go_roundw
            case rel =>
              refine ⟨k2 + 1, R.set k2 (.int .u8 (s k2)), by omega, by go_num, hbel.setCell (Nat.le_refl _) _, (heap_setCell_same wr _ k2 _ _ _ HR.out).trans (by rw [List.setIfInBounds_toArray]), by simpa using hRl, fun i hi => ?_, (heap_setCell_other wr _ _ _ (by simp)).trans HT'.out⟩
              rw [List.getElem?_set]
              by_cases e : k2 = i
              · subst e
                rw [if_pos rfl, if_pos (by omega), if_pos (by omega)]
              · rw [if_neg e, HRv.out i hi]
                by_cases e2 : i < k2
                · rw [if_pos e2, if_pos (by omega)]
                · rw [if_neg e2, if_neg (by omega)]
            case measure => simp [intOf]; omega
          · obtain rfl : k2 = 16 := by omega
            have HR := hid hR
            have HT' := hid hT
            have HRv : Hid (∀ i, i < 16 → R[i]? = some (.int .u8 (s i))) := fun i hi => by rw [hRv i hi, if_pos hi]
            clear hR hT hRv
            go_wp2
            go_loopw [32] (fun v32 w' => ∃ (k : Int) (T : List Value), lo ≤ k ∧ v32 = .int .i64 k ∧ Below w5.heap.size w5 w' ∧
                w'.heap[w5.heap.size + 1]? = some (.cells T.toArray 24 (0, 0)) ∧ T.length = 16 ∧ (∀ i : Nat, i < 16 → T[i]? = some (.int .u8 (if lo ≤ (i : Int) ∧ (i : Int) < k then t i else 0))) ∧ w'.heap[w5.heap.size]? = some (.cells R.toArray 24 (0, 0))) (fun v32 _ => (16 - intOf v32).toNat)
            case atStart =>
              exact ⟨lo, zeros, by omega, rfl, hbel, HT'.out, rfl, fun i hi => by rw [zeros_at i hi, if_neg (by omega)], HR.out⟩
            case round =>
              obtain ⟨k3, T, hk3', rfl, hbel, hTT, hTl, hTv, hRR⟩ := hrel
              have hWr := hW5.trans (hbel.mono hW5.size)
              by_cases hlt3 : k3 < 16
              · obtain ⟨k3, rfl⟩ := Int.eq_ofNat_of_zero_le (show 0 ≤ k3 by omega)
                have hn2' := hf (by omega)
                have hc2' : ∃ b2 o2, a2 = some ⟨b2, o2, none⟩ ∧ ∀ i, i < n2 → w.cell? ⟨b2, o2 + i, none⟩ = some (.int .u8 (t i)) := by
                  rcases h2 with h | h
                  · omega
                  · exact h
                obtain ⟨b2, o2, rfl, hc2⟩ := hc2'
                have hcs := cell_later hWr (hc2 k3 (by omega))
                have hcr : wr.cell? ⟨w5.heap.size + 1, k3, none⟩ = some (.int .u8 0) := by
                  rw [cell_of_row _ _ _ _ _ _ hTT]
                  have := hTv k3 (by omega)
                  rw [if_neg (by omega)] at this
                  simpa using this
                have hfr := frozen_of_row wr (w5.heap.size + 1) k3 _ _ hTT
                have HTT := hid hTT
                have HRR := hid hRR
                have HTv := hid hTv
                clear hTT hRR hTv hc2
                have i1 : (k3 : Int) < 16 := by omega
                have i2 : (k3 : Int) < (n2 : Int) := by omega
                go_wp2
                go_roundw
                case rel =>
                  refine ⟨(k3 : Int) + 1, T.set k3 (.int .u8 (t k3)), by omega, rfl, hbel.setCell (Nat.le_succ _) _, (heap_setCell_same wr _ k3 _ _ _ HTT.out).trans (by rw [List.setIfInBounds_toArray]), by simpa using hTl, fun i hi => ?_, (heap_setCell_other wr _ _ _ (by simp)).trans HRR.out⟩
                  rw [List.getElem?_set]
                  by_cases e : k3 = i
                  · subst e
                    rw [if_pos rfl, if_pos (by omega), if_pos (by omega)]
                  · rw [if_neg e, HTv.out i hi]
                    by_cases e2 : lo ≤ (i : Int) ∧ (i : Int) < (k3 : Int)
                    · rw [if_pos e2, if_pos (by omega)]
                    · rw [if_neg e2, if_neg (by omega)]
                case measure => simp [intOf]; omega
              · have hi24R : (Try.prog.info? 24).map (·.size) = some R.length := by rw [hRl]; exact info24
                have hi24T : (Try.prog.info? 24).map (·.size) = some T.length := by rw [hTl]; exact info24
                have HTv := hid hTv
                have rT := range_of_block hTT
                have rR := range_of_block hRR
                have hin6 : InBoxes wr (w5.heap.size + 1) w5.heap.size H2 H3 T R X D := ⟨rT, rR, range_later z2 hbel, range_later z3 hbel⟩
                have hlv6 := hlv5.later hbel
                clear hTT hRR hTv
                generalize w5.heap.size + 1 = HX at *
                have HRA : Hid (reachedB p p lo s s t (fun i => if lo ≤ (i : Int) ∧ (i : Int) < k3 then t i else 0) = true) := by
                  unfold Hid
                  rw [reachedB_iff]
                  refine ⟨Int.le_refl _, fun i _ => Int.le_refl _, fun i hi hfi => ?_⟩
                  show t i ≤ if lo ≤ (i : Int) ∧ (i : Int) < k3 then t i else 0
                  rw [if_pos (by omega)]
                  exact Int.le_refl _
                go_wp2
                refine wp_region_noPanic ?_
                refine wp_region_held_drew (S := fun w' => InBoxes w' HX w5.heap.size H2 H3 T R X D ∧ LevelAt w' bL p n1 n2 s t) (by kernel_rfl) ⟨⟨hin6.r0, hin6.r1, hin6.r2, hin6.r3⟩, hlv6⟩ (fun hHeld => ?_)
                refine wpAnyH_take (i := 1) (v := .agg T.toArray) rfl (by kernel_rfl) (by kernel_rfl) (by kernel_rfl) (fun _ _ _ h => h) (yieldsIf_load_mid (by rfl) 24 _ rfl HX 0 (by rfl) T _ (fun w h => h.1.r0) Try.underlying24 rfl hi24T) hHeld ?_
                simp only [Act.put, List.getElem_toArray, List.getElem_cons_zero, List.getElem_cons_succ, List.setIfInBounds_toArray, List.set_cons_zero, List.set_cons_succ]
                refine wpAnyH_take (i := 2) (v := .agg R.toArray) rfl (by kernel_rfl) (by kernel_rfl) (by kernel_rfl) (fun _ _ _ h => h) (yieldsIf_load_mid (by rfl) 24 _ rfl w5.heap.size 0 (by rfl) R _ (fun w h => h.1.r1) Try.underlying24 rfl hi24R) hHeld ?_
                simp only [Act.put, List.getElem_toArray, List.getElem_cons_zero, List.getElem_cons_succ, List.setIfInBounds_toArray, List.set_cons_zero, List.set_cons_succ]
                refine wpAnyH_take (i := 4) (v := .agg X.toArray) rfl (by kernel_rfl) (by kernel_rfl) (by kernel_rfl) (fun _ _ _ h => h) (yieldsIf_load_mid (by rfl) 25 _ rfl H2 0 (by rfl) X _ (fun w h => h.1.r2) Try.underlying25 rfl hi25) hHeld ?_
                simp only [Act.put, List.getElem_toArray, List.getElem_cons_zero, List.getElem_cons_succ, List.setIfInBounds_toArray, List.set_cons_zero, List.set_cons_succ]
                refine wpAnyH_take (i := 5) (v := .agg D.toArray) rfl (by kernel_rfl) (by kernel_rfl) (by kernel_rfl) (fun _ _ _ h => h) (yieldsIf_load_mid (by rfl) 26 _ rfl H3 0 (by rfl) D _ (fun w h => h.1.r3) Try.underlying26 rfl hi26) hHeld ?_
                simp only [Act.put, List.getElem_toArray, List.getElem_cons_zero, List.getElem_cons_succ, List.setIfInBounds_toArray, List.set_cons_zero, List.set_cons_succ]
                refine wpAnyH_take (i := 0) (v := .pointer (some ⟨bL, 0, none⟩)) rfl (by kernel_rfl) (by kernel_rfl) (by kernel_rfl) (fun _ _ _ h => h) (Or.inl ⟨by rfl, fun w _ => by rfl⟩) hHeld ?_
                simp only [Act.put, List.getElem_toArray, List.getElem_cons_zero, List.getElem_cons_succ, List.setIfInBounds_toArray, List.set_cons_zero, List.set_cons_succ]
                refine wpAnyH_take (i := 3) (v := .int .u16 p) rfl (by kernel_rfl) (by kernel_rfl) (by kernel_rfl) (fun _ _ _ h => h) (Or.inl ⟨by rfl, fun w _ => by rfl⟩) hHeld ?_
                simp only [Act.put, List.getElem_toArray, List.getElem_cons_zero, List.getElem_cons_succ, List.setIfInBounds_toArray, List.set_cons_zero, List.set_cons_succ]
                refine wpAnyH_take (i := 7) (v := .int .i64 lo) rfl (by kernel_rfl) (by kernel_rfl) (by kernel_rfl) (fun _ _ _ h => h) (Or.inl ⟨by rfl, fun w _ => by rfl⟩) hHeld ?_
                simp only [Act.put, List.getElem_toArray, List.getElem_cons_zero, List.getElem_cons_succ, List.setIfInBounds_toArray, List.set_cons_zero, List.set_cons_succ]
                refine wpAnyH_ready (rs := [6]) (by kernel_rfl) (by simp) ?_
                refine AllReadyH.cons rfl (fun K hK => ?_) AllReadyH.nil
                simp only [List.getElem_toArray, List.getElem_cons_zero, List.getElem_cons_succ]
                go_simp
                refine (newPlat _ _ _ _ s (by simpa using hRl) (fun i hi => by simpa using HRv.out i hi) (by simpa using hXl) (by simpa using hDl) _).mono ?_
                rintro e w7 ⟨rfl, hb7, hpl7⟩
                have hB7 := (Below.refl wr.heap.size wr).drew.trans hb7
                have hlv7 := hlv6.later hB7
                go_wp2_with fail
                refine hK.out _ _ ⟨hin6.later hB7, hlv7⟩ (fun hHeld3 => ?_)
                clear hK hHeld K
                refine wpAnyH_ready (rs := [8]) (by kernel_rfl) (by simp) ?_
                refine AllReadyH.cons rfl (fun K hK => ?_) AllReadyH.nil
                simp only [List.getElem_toArray, List.getElem_cons_zero, List.getElem_cons_succ]
                go_simp
                refine (zzreached _ _ _ n1 n2 p p lo s t s (fun i => if lo ≤ (i : Int) ∧ (i : Int) < k3 then t i else 0) _ (by simpa using hTl) (fun i hi => by simpa using HTv.out i hi) hlv7 hpl7 hs hlo0 hf).mono ?_
                rw [HRA.out]
                rintro e w8 ⟨rfl, hb8⟩
                have hB8 := hB7.trans (hb8.mono hB7.size)
                go_wp2_with fail
                refine hK.out _ _ ⟨hin6.later hB8, hlv6.later hB8⟩ (fun hHeld4 => ?_)
                clear hK hHeld3 K
                refine wpAnyH_take (i := 9) (v := .bool true) rfl (by kernel_rfl) (by kernel_rfl) (by kernel_rfl) (fun _ _ _ h => h) (Or.inl ⟨by rfl, fun w _ => by rfl⟩) hHeld4 ?_
                simp only [Act.put, List.getElem_toArray, List.getElem_cons_zero, List.getElem_cons_succ, List.setIfInBounds_toArray, List.set_cons_zero, List.set_cons_succ]
                refine wpAnyH_done (by kernel_rfl) ?_ _
                refine NoPanic.normal ?_
                have hW8 := hWr.trans (hB8.mono hWr.size)
                clear hB7 hB8 hb7 hb8 hpl7 hlv7 hHeld4 hin6 hlv6 rT rR
                have hg := HB.out
                clear HB HRA HNB
                generalize reachedB p pp lo s tp t tq = A at hg ⊢
                generalize reachedB p pp hi s tp t tq = B at hg ⊢
                obtain rfl : A = (B && nb) := by simpa using hg
                clear hg
                cases B
                all_goals
                  cases nb
                  all_goals
                    go_wp2
                    go_ret
                    exact ⟨rfl, hW8⟩

/-! ### The ways out ahead of the reckoning -/
set_option maxHeartbeats 1000000 in
set_option maxRecDepth 100000 in
theorem law4_far (w : World) (a1 a2 : Option Addr) (n1 c1 n2 c2 : Nat) (p pp f g : Int) (tee pl X D : List Value)
    (htl : tee.length = 16) (hpl : pl.length = 16) (hXl : X.length = 2) (hDl : D.length = 6) (hsum : ¬ n1 + n2 ≤ 1048576) :
    Calls Try.prog 4 #[.slice a1 n1 c1, .int .u16 p, .slice a2 n2 c2, .agg tee.toArray, .agg pl.toArray, .int .u16 pp, .agg X.toArray, .agg D.toArray, .int .i64 f, .int .i64 g] w fun e w' => e = .returned (.bool true) ∧ Below w.heap.size w w' := by
  have hi24 : (Try.prog.info? 24).map (·.size) = some tee.length := by rw [htl]; exact info24
  have hi24' : (Try.prog.info? 24).map (·.size) = some pl.length := by rw [hpl]; exact info24
  have hi25 : (Try.prog.info? 25).map (·.size) = some X.length := by rw [hXl]; exact info25
  have hi26 : (Try.prog.info? 26).map (·.size) = some D.length := by rw [hDl]; exact info26
  obtain ⟨q0, q1, q2, q3⟩ := boxed_in w tee pl X D
  have hbel := boxed_below w tee pl X D
  go_enter Try.func4, Try.ntmps4
  go_wp2_with (first | ((with_reducible show wpList _ _ _ (Oper.mk _ (Op.load 24 (.tmp 13)) _ _ _ _ :: _) _ _); refine wpList_load_mid rfl 24 _ rfl (w.heap.size) 0 (by rfl) tee _ (by assumption) Try.underlying24 rfl hi24 ?_) | ((with_reducible show wpList _ _ _ (Oper.mk _ (Op.load 24 (.tmp 14)) _ _ _ _ :: _) _ _); refine wpList_load_mid rfl 24 _ rfl (w.heap.size + 1) 0 (by rfl) pl _ (by assumption) Try.underlying24 rfl hi24' ?_) | ((with_reducible show wpList _ _ _ (Oper.mk _ (Op.load 25 (.tmp 16)) _ _ _ _ :: _) _ _); refine wpList_load_mid rfl 25 _ rfl (w.heap.size + 1 + 1) 0 (by rfl) X _ (by assumption) Try.underlying25 rfl hi25 ?_) | ((with_reducible show wpList _ _ _ (Oper.mk _ (Op.load 26 (.tmp 17)) _ _ _ _ :: _) _ _); refine wpList_load_mid rfl 26 _ rfl (w.heap.size + 1 + 1 + 1) 0 (by rfl) D _ (by assumption) Try.underlying26 rfl hi26 ?_) | (go_at_call 9; refine (zzb4_no _ _ _ _ _ _ _ _ _ _ _ _ _ _ _ (by simpa using htl) (by simpa using hpl) (by simpa using hXl) (by simpa using hDl) hsum).mono ?_; rintro e w1 ⟨rfl, hb1⟩))
  all_goals
    go_ret
    exact ⟨rfl, hbel.trans (hb1.mono hbel.size)⟩
set_option maxHeartbeats 1000000 in
set_option maxRecDepth 100000 in
theorem law4_out (w : World) (a1 a2 : Option Addr) (n1 c1 n2 c2 : Nat) (p pp f g : Int) (tee pl X D : List Value)
    (htl : tee.length = 16) (hpl : pl.length = 16) (hXl : X.length = 2) (hDl : D.length = 6) (hsum : n1 + n2 ≤ 1048576) (h : ¬ n1 ≤ 65536 ∨ ¬ n2 ≤ 65536 ∨ f < 0 ∨ g < 0 ∨ n1 < 16 ∨ (min f g < 16 ∧ n2 < 16)) :
    Calls Try.prog 4 #[.slice a1 n1 c1, .int .u16 p, .slice a2 n2 c2, .agg tee.toArray, .agg pl.toArray, .int .u16 pp, .agg X.toArray, .agg D.toArray, .int .i64 f, .int .i64 g] w fun e w' => e = .returned (.bool true) ∧ Below w.heap.size w w' := by
  have hi24 : (Try.prog.info? 24).map (·.size) = some tee.length := by rw [htl]; exact info24
  have hi24' : (Try.prog.info? 24).map (·.size) = some pl.length := by rw [hpl]; exact info24
  have hi25 : (Try.prog.info? 25).map (·.size) = some X.length := by rw [hXl]; exact info25
  have hi26 : (Try.prog.info? 26).map (·.size) = some D.length := by rw [hDl]; exact info26
  obtain ⟨q0, q1, q2, q3⟩ := boxed_in w tee pl X D
  have hbel := boxed_below w tee pl X D
  have hx : 65536 < n1 ∨ (n1 ≤ 65536 ∧ 65536 < n2) ∨ (n1 ≤ 65536 ∧ n2 ≤ 65536 ∧ f < 0) ∨ (n1 ≤ 65536 ∧ n2 ≤ 65536 ∧ 0 ≤ f ∧ g < 0) ∨
      (n1 ≤ 65536 ∧ n2 ≤ 65536 ∧ 0 ≤ f ∧ 0 ≤ g ∧ g < f ∧ n1 < 16) ∨ (n1 ≤ 65536 ∧ n2 ≤ 65536 ∧ 0 ≤ f ∧ 0 ≤ g ∧ f ≤ g ∧ n1 < 16) ∨
      (n1 ≤ 65536 ∧ n2 ≤ 65536 ∧ 0 ≤ f ∧ 0 ≤ g ∧ 16 ≤ n1 ∧ g < f ∧ g < 16 ∧ n2 < 16) ∨ (n1 ≤ 65536 ∧ n2 ≤ 65536 ∧ 0 ≤ f ∧ 0 ≤ g ∧ 16 ≤ n1 ∧ f ≤ g ∧ f < 16 ∧ n2 < 16) := by omega
  clear h
  rcases hx with r | ⟨r1, r⟩ | ⟨r1, r2, r⟩ | ⟨r1, r2, r3, r⟩ | ⟨r1, r2, r3, r4, r5, r⟩ | ⟨r1, r2, r3, r4, r5, r⟩ | ⟨r1, r2, r3, r4, r5, r6, r7, r⟩ | ⟨r1, r2, r3, r4, r5, r6, r7, r⟩
  all_goals
    go_enter Try.func4, Try.ntmps4
    go_wp2_with (first | ((with_reducible show wpList _ _ _ (Oper.mk _ (Op.load 24 (.tmp 13)) _ _ _ _ :: _) _ _); refine wpList_load_mid rfl 24 _ rfl (w.heap.size) 0 (by rfl) tee _ (by assumption) Try.underlying24 rfl hi24 ?_) | ((with_reducible show wpList _ _ _ (Oper.mk _ (Op.load 24 (.tmp 14)) _ _ _ _ :: _) _ _); refine wpList_load_mid rfl 24 _ rfl (w.heap.size + 1) 0 (by rfl) pl _ (by assumption) Try.underlying24 rfl hi24' ?_) | ((with_reducible show wpList _ _ _ (Oper.mk _ (Op.load 25 (.tmp 16)) _ _ _ _ :: _) _ _); refine wpList_load_mid rfl 25 _ rfl (w.heap.size + 1 + 1) 0 (by rfl) X _ (by assumption) Try.underlying25 rfl hi25 ?_) | ((with_reducible show wpList _ _ _ (Oper.mk _ (Op.load 26 (.tmp 17)) _ _ _ _ :: _) _ _); refine wpList_load_mid rfl 26 _ rfl (w.heap.size + 1 + 1 + 1) 0 (by rfl) D _ (by assumption) Try.underlying26 rfl hi26 ?_) | (go_at_call 9; refine (zzb4_yes _ _ _ _ _ _ _ _ _ _ _ _ _ _ _ (by simpa using htl) (by simpa using hpl) (by simpa using hXl) (by simpa using hDl) hsum).mono ?_; rintro e w1 ⟨rfl, hb1⟩))
    go_ret
    exact ⟨rfl, hbel.trans (hb1.mono hbel.size)⟩

/-- The law, whatever the input. -/
theorem law4 (w : World) (a1 a2 : Option Addr) (n1 c1 n2 c2 : Nat) (p pp f g : Int) (s t tq tp : Nat → Int) (tee pl X D : List Value)
    (htl : tee.length = 16) (hpl : pl.length = 16) (hXl : X.length = 2) (hDl : D.length = 6) (h1 : Reads w a1 n1 s) (h2 : Reads w a2 n2 t) (ht : ∀ i, i < 16 → tee[i]? = some (.int .u8 (tq i))) (hp : ∀ i, i < 16 → pl[i]? = some (.int .u8 (tp i))) :
    Calls Try.prog 4 #[.slice a1 n1 c1, .int .u16 p, .slice a2 n2 c2, .agg tee.toArray, .agg pl.toArray, .int .u16 pp, .agg X.toArray, .agg D.toArray, .int .i64 f, .int .i64 g] w fun e w' => e = .returned (.bool true) ∧ Below w.heap.size w w' := by
  by_cases hsum : n1 + n2 ≤ 1048576
  · by_cases h : ¬ n1 ≤ 65536 ∨ ¬ n2 ≤ 65536 ∨ f < 0 ∨ g < 0 ∨ n1 < 16 ∨ (min f g < 16 ∧ n2 < 16)
    · exact law4_out w a1 a2 n1 c1 n2 c2 p pp f g tee pl X D htl hpl hXl hDl hsum h
    · exact law4_main w a1 a2 n1 c1 n2 c2 p pp f g s t tq tp tee pl X D htl hpl hXl hDl h1 h2 ht hp (by omega) (by omega) (by omega) (by omega) (by omega) (by omega)
  · exact law4_far w a1 a2 n1 c1 n2 c2 p pp f g tee pl X D htl hpl hXl hDl hsum
end Go.Proofs.Qxb6613041a
