import Derived.Test.Qxb6613772aLawA
namespace Go.Proofs.Qxb6613772a
open Go.RowKit
set_option linter.unusedVariables false

theorem zzMax_any (a b : Int) (w : World) : Calls Try.prog 35 #[.int .i64 a, .int .i64 b] w fun e w' => e = .returned (.int .i64 (max a b)) ∧ w' = w := by
  by_cases h : b < a
  · go_enter Try.func35, Try.ntmps35
    go_wp2
    go_ret
    exact ⟨ret_int (show a = max a b by omega), rfl⟩
  · go_enter Try.func35, Try.ntmps35
    go_wp2
    go_ret
    exact ⟨ret_int (show b = max a b by omega), rfl⟩

/-! ### The message number k of a list, or none -/
def atM (L : List (List Int)) (k : Nat) : List Int := L.getD k []
def hdM (hs : List Value) (k : Nat) : Value := hs.getD k (.slice none 0 0)
theorem atM_lt (L : List (List Int)) (k : Nat) (h : k < L.length) : atM L k = L[k] := by simp [atM, List.getD, List.getElem?_eq_getElem h]
theorem hdM_lt (hs : List Value) (k : Nat) (h : k < hs.length) : hdM hs k = hs[k] := by simp [hdM, List.getD, List.getElem?_eq_getElem h]
theorem atM_ge (L : List (List Int)) (k : Nat) (h : L.length ≤ k) : atM L k = [] := by simp [atM, List.getD, List.getElem?_eq_none h]
theorem hdM_ge (hs : List Value) (k : Nat) (h : hs.length ≤ k) : hdM hs k = .slice none 0 0 := by simp [hdM, List.getD, List.getElem?_eq_none h]
theorem MsgsAt.hd {w : World} {hs : List Value} {L : List (List Int)} (h : MsgsAt w hs L) (k : Nat) : MsgAt w (hdM hs k) (atM L k) := by
  by_cases hk : k < hs.length
  · have hk' : k < L.length := by rw [← h.1]; exact hk
    rw [hdM_lt hs k hk, atM_lt L k hk']
    exact h.get k hk hk'
  · rw [hdM_ge hs k (by omega), atM_ge L k (by rw [← h.1]; omega)]
    exact ⟨none, none, 0, rfl, .inl rfl⟩
theorem len_atM {L : List (List Int)} {n : Nat} (h : ∀ b ∈ L, b.length ≤ n) (k : Nat) : (atM L k).length ≤ n := by
  by_cases hk : k < L.length
  · rw [atM_lt L k hk]; exact h _ (List.getElem_mem hk)
  · rw [atM_ge L k (by omega)]; exact Nat.zero_le _

set_option maxHeartbeats 400000 in
theorem zzAt_any (w : World) (r : Option Nat) (v : Value) (hs : List Value) (L : List (List Int)) (k : Nat) (h : Lies w r v hs) (hm : MsgsAt w hs L) :
    Calls Try.prog 25 #[v, .int .i64 k] w fun e w' => (∃ a c, e = .returned (.slice a (atM L k).length c) ∧ hdM hs k = .slice a (atM L k).length c) ∧ w' = w := by
  obtain ⟨a, c, rfl, hc⟩ := h.open
  by_cases hk : k < hs.length
  · obtain ⟨b, o, rfl, hcell⟩ : ∃ b o, a = some ⟨b, o, none⟩ ∧ ∀ i (hi : i < hs.length), w.cell? ⟨b, o + i, none⟩ = some hs[i] := by
      rcases hc with h | h
      · omega
      · exact h
    have g1 := hcell k hk
    rw [← hdM_lt hs k hk] at g1
    obtain ⟨a1, c1, e1, _⟩ := (hm.hd k).open
    rw [e1] at g1
    have HE := hid e1
    clear hc hcell e1
    have i1 : (k : Int) < (hs.length : Int) := by omega
    go_enter Try.func25, Try.ntmps25
    go_wp2
    go_ret
    exact ⟨⟨_, _, rfl, HE.out⟩, rfl⟩
  · have i1 : ¬ (k : Int) < (hs.length : Int) := by omega
    have e1 := atM_ge L k (by rw [← hm.1]; omega)
    have e2 := hdM_ge hs k (by omega)
    have H1 := hid e1
    have H2 := hid e2
    clear e1 e2 hc
    go_enter Try.func25, Try.ntmps25
    go_wp2
    go_ret
    exact ⟨⟨none, 0, by rw [H1.out]; rfl, by rw [H1.out, H2.out]; rfl⟩, rfl⟩

/-- Either said to be too long, or none is. -/
def TooLong (A B : List (List Int)) (e : Ending) : Prop := e = .returned (.bool true) ∨ (e = .returned (.bool false) ∧ ∀ k, k < max A.length B.length → (atM A k).length + (atM B k).length ≤ 65535)

set_option maxHeartbeats 1000000 in
theorem tooLong (w : World) (r1 r2 : Option Nat) (u v : Value) (hs1 hs2 : List Value) (A B : List (List Int)) (h1 : Lies w r1 u hs1) (h2 : Lies w r2 v hs2) (m1 : MsgsAt w hs1 A) (m2 : MsgsAt w hs2 B)
    (hA : ∀ b ∈ A, b.length ≤ 1048576) (hB : ∀ b ∈ B, b.length ≤ 1048576) (hA1 : A.length ≤ 1048576) (hB1 : B.length ≤ 1048576) :
    Calls Try.prog 20 #[u, v] w fun e w' => TooLong A B e ∧ w' = w := by
  obtain ⟨a1, c1, hu, _⟩ := h1.open
  obtain ⟨a2, c2, hv, _⟩ := h2.open
  subst hu hv
  rw [m1.1] at h1
  rw [m2.1] at h2
  rw [m1.1, m2.1]
  have L1 := fun k => len_atM hA k
  have L2 := fun k => len_atM hB k
  obtain ⟨M, hM⟩ : ∃ M : Nat, max (A.length : Int) (B.length : Int) = (M : Int) := ⟨max A.length B.length, by omega⟩
  have HM : Hid (M = max A.length B.length) := hid (by omega)
  have hMs : M ≤ 1048576 := by omega
  go_enter Try.func20, Try.ntmps20
  go_wp2_with (go_at_call 35; refine (zzMax_any _ _ _).mono ?_; rintro e w2 ⟨rfl, rfl⟩; rw [hM])
  clear hM
  go_loop [6] (fun j => ∃ k : Nat, k ≤ M ∧ j = .int .i64 k ∧ ∀ i, i < k → (atM A i).length + (atM B i).length ≤ 65535) (fun j => M - (intOf j).toNat)
  case atStart => exact ⟨0, by omega, rfl, fun i hi => by omega⟩
  case round =>
    obtain ⟨k, hk, rfl, hsm⟩ := hrel
    have HSM := hid hsm
    clear hsm
    by_cases hlt : k < M
    · have l1 := L1 k
      have l2 := L2 k
      have i1 : (k : Int) < (M : Int) := by omega
      have LL1 := hid L1
      have LL2 := hid L2
      clear L1 L2
      have tok1 : True := trivial
      by_cases hq : (atM A k).length + (atM B k).length ≤ 65535
      · have HQ := hid hq
        have q1 : ¬ 65535 - ((atM B k).length : Int) < ((atM A k).length : Int) := by omega
        go_wp2_with (first | (go_at_call 25; have _t := tok1; refine (zzAt_any _ r1 _ hs1 A k h1 m1).mono ?_; rintro e w3 ⟨⟨x1, y1, rfl, _⟩, rfl⟩; clear tok1) | (go_at_call 25; refine (zzAt_any _ r2 _ hs2 B k h2 m2).mono ?_; rintro e w4 ⟨⟨x2, y2, rfl, _⟩, rfl⟩))
        go_round
        case rel => exact ⟨k + 1, by omega, by go_num, fun i hi => if h : i = k then h ▸ HQ.out else HSM.out i (by omega)⟩
        case measure => simp [intOf]; omega
      · have q1 : 65535 - ((atM B k).length : Int) < ((atM A k).length : Int) := by omega
        go_wp2_with (first | (go_at_call 25; have _t := tok1; refine (zzAt_any _ r1 _ hs1 A k h1 m1).mono ?_; rintro e w3 ⟨⟨x1, y1, rfl, _⟩, rfl⟩; clear tok1) | (go_at_call 25; refine (zzAt_any _ r2 _ hs2 B k h2 m2).mono ?_; rintro e w4 ⟨⟨x2, y2, rfl, _⟩, rfl⟩))
        go_ret
        exact ⟨.inl rfl, rfl⟩
    · go_wp2
      go_ret
      exact ⟨.inr ⟨rfl, fun k' hk' => HSM.out k' (by have := HM.out; omega)⟩, rfl⟩

theorem bytesV_append (A B : List Int) : bytesV (A ++ B) = bytesV A ++ bytesV B := by simp [bytesV]
/-- The messages: head and payload, number by number. -/
def wantM (A B : List (List Int)) : Nat → List (List Int)
  | 0 => []
  | k + 1 => wantM A B k ++ [atM A k ++ atM B k]
theorem len_wantM (A B : List (List Int)) : ∀ k, (wantM A B k).length = k
  | 0 => rfl
  | k + 1 => by simp [wantM, len_wantM A B k]

set_option maxHeartbeats 2000000 in
theorem messages (w : World) (r1 r2 : Option Nat) (u v : Value) (hs1 hs2 : List Value) (A B : List (List Int)) (h1 : Lies w r1 u hs1) (h2 : Lies w r2 v hs2) (m1 : MsgsAt w hs1 A) (m2 : MsgsAt w hs2 B)
    (hA : ∀ b ∈ A, b.length ≤ 1048576) (hB : ∀ b ∈ B, b.length ≤ 1048576) (hA1 : A.length ≤ 1048576) (hB1 : B.length ≤ 1048576) (M : Nat) (hM : M = max A.length B.length) :
    Calls Try.prog 21 #[u, v] w fun e w' => ∃ hs', e = .returned (.slice (some ⟨w.heap.size, 0, none⟩) M M) ∧ Below w.heap.size w w' ∧ FullAt w' (some w.heap.size) (.slice (some ⟨w.heap.size, 0, none⟩) M M) hs' ∧ MsgsFrom w' (w.heap.size + 1) hs' (wantM A B M) := by
  obtain ⟨a1, c1, hu, _⟩ := h1.open
  obtain ⟨a2, c2, hv, _⟩ := h2.open
  subst hu hv
  rw [m1.1] at h1
  rw [m2.1] at h2
  rw [m1.1, m2.1]
  have L1 := hid (fun k => len_atM hA k)
  have L2 := hid (fun k => len_atM hB k)
  have hMI : max (A.length : Int) (B.length : Int) = (M : Int) := by omega
  have hMs : M ≤ 1048576 := by omega
  clear hM
  obtain ⟨i, hi, hz0, hz1, hz2⟩ := info_parts info29
  obtain ⟨j, hj, jz0, jz1, jz2⟩ := info_parts info5
  have tokA : True := trivial
  go_enter Try.func21, Try.ntmps21
  go_wp2_with (first | (go_at_call 35; refine (zzMax_any _ _ _).mono ?_; rintro e w2 ⟨rfl, hw⟩; obtain rfl := hw.symm; rw [hMI]) | (at_make; refine wpList_make_full _ rfl _ _ 22 rfl w.heap.size 29 i _ 1 Try.underlying22 hi hz0 hz1 .i64 .i64 _ _ M (by rfl) (by rfl) rfl rfl (by rw [hz2]; omega) (by unfold maxLen; omega) (Nat.le_refl _) ?_; intro w1 hown1 hgr1))
  clear hMI
  go_loopw [7] (fun t w' => ∃ (k : Nat) (cur : Array Value) (hs' : List Value), k ≤ M ∧ t = .int .i64 k ∧ Below w.heap.size w w' ∧ w'.heap[w.heap.size]? = some (.cells cur 29 (0, 0)) ∧ cur.size = M ∧ hs'.length = k ∧ (∀ j, j < k → cur[j]? = hs'[j]?) ∧ MsgsFrom w' (w.heap.size + 1) hs' (wantM A B k)) (fun t _ => M - (intOf t).toNat)
  case atStart =>
    obtain ⟨cur, g1, g2⟩ := own_row hown1
    exact ⟨0, cur, [], by omega, rfl, (Below.refl _ _).grown hgr1 (Nat.le_refl _) (fun k hk => by cases hk), g1, g2, rfl, fun j hj => by omega, MsgsFrom.nil _ _⟩
  case round =>
    obtain ⟨k, cur, hs', hk, rfl, hbel, hg, hcs, hsl, hcur, hms⟩ := hrel
    by_cases hlt : k < M
    · have i1 : (k : Int) < (M : Int) := by omega
      have hsz : w.heap.size < wr.heap.size := (Array.getElem?_eq_some_iff.1 hg).1
      have H1 := h1.later hbel
      have H2 := h2.later hbel
      have N1 := m1.later hbel
      have N2 := m2.later hbel
      have l1 := L1.out k
      have l2 := L2.out k
      have HG := hid hg
      have HCS := hid hcs
      have HSL := hid hsl
      have HCUR := hid hcur
      clear hg hcs hsl hcur h1 h2 m1 m2
      obtain ⟨N, hN⟩ : ∃ N : Nat, ((atM A k).length : Int) + ((atM B k).length : Int) = (N : Int) := ⟨(atM A k).length + (atM B k).length, by omega⟩
      have HN : Hid (N = (atM A k).length + (atM B k).length) := hid (by omega)
      have hNs : N ≤ 2097152 := by omega
      go_wp2_with (first | (go_at_call 25; have _t := tokA; refine (zzAt_any _ r1 _ hs1 A k H1 N1).mono ?_; rintro e w3 ⟨⟨x1, y1, rfl, E1⟩, hw⟩; obtain rfl := hw.symm; clear tokA) | (go_at_call 25; refine (zzAt_any _ r2 _ hs2 B k H2 N2).mono ?_; rintro e w4 ⟨⟨x2, y2, rfl, E2⟩, hw⟩; obtain rfl := hw.symm) | (at_make; refine wpList_make_own _ rfl _ _ 29 rfl wr.heap.size 5 j _ 1 Try.underlying29 hj jz0 jz1 .i64 .i64 _ N (by rfl) (by rfl) rfl (by rw [jz2]; omega) (by unfold maxLen; omega) (Nat.le_refl _) ?_; intro w5 hown5 hgr5))
      clear hN
      have MA := E1 ▸ N1.hd k
      have MB := E2 ▸ N2.hd k
      obtain ⟨z1, w1', F1, P1⟩ := MA.open
      obtain ⟨z2, w2', F2, P2⟩ := MB.open
      obtain ⟨rfl, -, rfl⟩ := Value.slice.inj F1
      obtain ⟨rfl, -, rfl⟩ := Value.slice.inj F2
      have Q1 := hid P1
      have Q2 := hid P2
      have HE1 := hid E1
      have HE2 := hid E2
      clear P1 P2 F1 F2 E1 E2
      obtain ⟨W0, rfl⟩ : ∃ W0, W0 = wr := ⟨_, rfl⟩
      go_loopw [10, 11] (fun t j w' => ∃ q : Nat, q ≤ (atM A k).length ∧ j = .int .i64 q ∧ t = .slice (some ⟨W0.heap.size, 0, none⟩) q N ∧ w'.ownsRow W0.heap.size 5 1 (.slice (some ⟨W0.heap.size, 0, none⟩) q N) q (bytesV ((atM A k).take q)) ∧ Below W0.heap.size W0 w' ∧ W0.heap.size < w'.heap.size) (fun _ j _ => (atM A k).length - (intOf j).toNat)
      case atStart => exact ⟨0, by omega, rfl, rfl, by rw [List.take_zero]; exact hown5, (Below.refl _ _).grown hgr5 (Nat.le_refl _) (fun k hk => by cases hk), (hown5.lt W0.heap.size rfl).2⟩
      case round =>
        obtain ⟨q, hq, rfl, rfl, hown, hbl, hsz1⟩ := hrel
        by_cases hql : q < (atM A k).length
        · obtain ⟨b1, o1, rfl, hca⟩ : ∃ b o, x1 = some ⟨b, o, none⟩ ∧ ∀ i (hi : i < (atM A k).length), W0.cell? ⟨b, o + i, none⟩ = some (.int .u8 (atM A k)[i]) := by
            rcases Q1.out with h | h
            · omega
            · exact h
          have g1 := cell_later hbl (hca q hql)
          have HX := hid (List.take_succ_eq_append_getElem hql)
          have HT := hid (List.length_take_of_le hq)
          clear hca
          have i2 : (q : Int) < ((atM A k).length : Int) := by omega
          have hqN : q + 1 ≤ N := by have := HN.out; omega
          generalize (atM A k)[q] = bx at g1 HX
          go_wp2_with (at_builtin; go_must (refine wpList_append_fits _ rfl _ _ 29 rfl W0.heap.size 5 j 1 Try.underlying29 hj jz1 W0.heap.size q N (bytesV ((atM A k).take q)) (by rfl) (hown.alloc _) ⟨wr.heap.size, 0, none⟩ 1 1 [.int .u8 bx] (by rfl) rfl (World.news_of_block (heap_alloc_new wr _)) (by simp [Value.oneCell']) (by omega) ?_); intro w6 hown6 hgr6)
          go_roundw
          case rel => exact ⟨q + 1, by omega, by go_num, rfl, by rw [HX.out, bytesV_append]; exact hown6, (hbl.alloc (by omega) _).grown hgr6 (by simp; omega) (fun j hj => by rw [← Option.some.inj hj]; exact Nat.le_refl _), by have := hgr6.size; simp at this; omega⟩
          case measure => simp [intOf]; omega
        · obtain rfl : q = (atM A k).length := by omega
          rw [List.take_length] at hown
          go_wp2
          go_loopw [10, 12] (fun t j w' => ∃ q : Nat, q ≤ (atM B k).length ∧ j = .int .i64 q ∧ t = .slice (some ⟨W0.heap.size, 0, none⟩) ((atM A k).length + q) N ∧ w'.ownsRow W0.heap.size 5 1 (.slice (some ⟨W0.heap.size, 0, none⟩) ((atM A k).length + q) N) ((atM A k).length + q) (bytesV (atM A k ++ (atM B k).take q)) ∧ Below W0.heap.size W0 w' ∧ W0.heap.size < w'.heap.size) (fun _ j _ => (atM B k).length - (intOf j).toNat)
          case atStart => exact ⟨0, by omega, rfl, rfl, by rw [List.take_zero, List.append_nil]; exact hown, hbl, hsz1⟩
          case round =>
            obtain ⟨q, hq, rfl, rfl, hown, hbl, hsz1⟩ := hrel
            by_cases hql : q < (atM B k).length
            · obtain ⟨b1, o1, rfl, hca⟩ : ∃ b o, x2 = some ⟨b, o, none⟩ ∧ ∀ i (hi : i < (atM B k).length), W0.cell? ⟨b, o + i, none⟩ = some (.int .u8 (atM B k)[i]) := by
                rcases Q2.out with h | h
                · omega
                · exact h
              have g1 := cell_later hbl (hca q hql)
              have HX := hid (List.take_succ_eq_append_getElem hql)
              clear hca
              have i2 : (q : Int) < ((atM B k).length : Int) := by omega
              have hqN : (atM A k).length + q + 1 ≤ N := by have := HN.out; omega
              generalize (atM B k)[q] = bx at g1 HX
              go_wp2_with (at_builtin; go_must (refine wpList_append_fits _ rfl _ _ 29 rfl W0.heap.size 5 j 1 Try.underlying29 hj jz1 W0.heap.size ((atM A k).length + q) N (bytesV (atM A k ++ (atM B k).take q)) (by rfl) (hown.alloc _) ⟨wr.heap.size, 0, none⟩ 1 1 [.int .u8 bx] (by rfl) rfl (World.news_of_block (heap_alloc_new wr _)) (by simp [Value.oneCell']) (by omega) ?_); intro w6 hown6 hgr6)
              go_roundw
              case rel => exact ⟨q + 1, by omega, by go_num, rfl, by rw [HX.out, ← List.append_assoc, bytesV_append]; exact hown6, (hbl.alloc (by omega) _).grown hgr6 (by simp; omega) (fun j hj => by rw [← Option.some.inj hj]; exact Nat.le_refl _), by have := hgr6.size; simp at this; omega⟩
              case measure => simp [intOf]; omega
            · obtain rfl : q = (atM B k).length := by omega
              rw [List.take_length] at hown
              have hgO := (hbl.block _ hsz).trans HG.out
              obtain ⟨cv, hcv⟩ : ∃ cv, cur[k]? = some cv := ⟨_, Array.getElem?_eq_getElem (by have := HCS.out; omega)⟩
              have hc2 : wr.cell? ⟨w.heap.size, k, none⟩ = some cv := (cell_of_row _ _ _ _ _ _ hgO).trans hcv
              have hf2 := frozen_of_row wr w.heap.size k _ _ hgO
              have HGO := hid hgO
              clear hgO hcv
              go_wp2
              go_roundw
              case rel =>
                have hbs : Below w.heap.size w wr := hbel.trans (hbl.mono hbel.size)
                refine ⟨k + 1, _, hs' ++ [.slice (some ⟨W0.heap.size, 0, none⟩) ((atM A k).length + (atM B k).length) N], by omega, by go_num, hbs.setCell (Nat.le_refl _) _, heap_setCell_same wr _ k _ _ _ HGO.out, by simpa using HCS.out, by simp [HSL.out], fun j hj => ?_, ?_⟩
                · rw [Array.getElem?_setIfInBounds]
                  by_cases e : k = j
                  · subst e
                    rw [if_pos rfl, if_pos (by have := HCS.out; omega), List.getElem?_append_right (by rw [HSL.out]; exact Nat.le_refl _), HSL.out, Nat.sub_self]
                    rfl
                  · rw [if_neg e, HCUR.out j (by omega), List.getElem?_append_left (by rw [HSL.out]; omega)]
                · refine (hms.kept (fun q hq hq2 => ?_)).snoc ?_
                  · rw [heap_setCell_other wr _ _ _ (by simp only []; omega)]
                    exact hbl.block q hq2
                  · refine ⟨some W0.heap.size, ⟨_, _, by rw [bytesV_len, List.length_append], .inr ⟨W0.heap.size, 0, rfl, rfl, fun q hq => ?_⟩⟩, fun q hq => by obtain rfl := Option.some.inj hq; exact hsz⟩
                    have hce := hown.cells (g := W0.heap.size) rfl q _ (List.getElem?_eq_getElem hq)
                    rw [Addr.add_mid] at hce
                    rw [Nat.zero_add] at hce ⊢
                    rw [List.getElem?_eq_getElem hq]
                    exact (cell_kept (heap_setCell_other wr _ _ _ (by simp only []; omega)) hce)
              case measure => simp [intOf]; omega
    · obtain rfl : k = M := by omega
      go_wp2
      go_ret
      refine ⟨hs', rfl, hbel, .inr ⟨_, rfl, by rw [hsl], cur, hg, by rw [hcs, hsl], fun j hj => hcur j (by omega)⟩, hms⟩

end Go.Proofs.Qxb6613772a
