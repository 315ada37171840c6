import Derived.Test.Qxb6613772aUnless
namespace Go.Proofs.Qxb6613772a
open Go.RowKit
set_option linter.unusedVariables false

/-! ### The plain law: the first of each, in order -/
def uniqTo (L : List (List Int)) : Nat → List (List Int)
  | 0 => []
  | k + 1 => addIf (uniqTo L k) (L.getD k []) (uniqTo L k) (L.getD k [])
def hdrTo (L : List (List Int)) (hs : List Value) : Nat → List Value
  | 0 => []
  | k + 1 => addIf (uniqTo L k) (L.getD k []) (hdrTo L hs k) (hs.getD k (.slice none 0 0))
theorem getD_of {α : Type} (l : List α) (k : Nat) (h : k < l.length) (d : α) : l.getD k d = l[k] := by simp [List.getD, List.getElem?_eq_getElem h]
theorem mem_uniqTo (L : List (List Int)) : ∀ (k : Nat) (x : List Int), x ∈ uniqTo L k ↔ ∃ j, j < k ∧ L.getD j [] = x
  | 0, x => by simp [uniqTo]
  | k + 1, x => by
    have ih := mem_uniqTo L k
    rw [uniqTo]
    cases hc : (uniqTo L k).contains (L.getD k [])
    · rw [addIf_no hc, List.mem_append, ih]
      constructor
      · rintro (⟨j, hj, e⟩ | h)
        · exact ⟨j, by omega, e⟩
        · exact ⟨k, by omega, (List.mem_singleton.1 h).symm⟩
      · rintro ⟨j, hj, e⟩
        by_cases h : j = k
        · right; subst h; rw [← e]; exact List.mem_singleton.2 rfl
        · left; exact ⟨j, by omega, e⟩
    · rw [addIf_yes hc, ih]
      constructor
      · rintro ⟨j, hj, e⟩; exact ⟨j, by omega, e⟩
      · rintro ⟨j, hj, e⟩
        by_cases h : j = k
        · subst h
          obtain ⟨i, hi, e'⟩ := (ih _).1 (List.contains_iff_mem.1 hc)
          exact ⟨i, hi, e'.trans e⟩
        · exact ⟨j, by omega, e⟩
theorem len_uniqTo (L : List (List Int)) : ∀ k, (uniqTo L k).length ≤ k
  | 0 => by simp [uniqTo]
  | k + 1 => by
    have := len_uniqTo L k
    rw [uniqTo]
    cases hc : (uniqTo L k).contains (L.getD k [])
    · rw [addIf_no hc]; simp; omega
    · rw [addIf_yes hc]; omega
theorem msgs_uniqTo {w : World} {hs : List Value} {L : List (List Int)} (h : MsgsAt w hs L) : ∀ k, k ≤ L.length → MsgsAt w (hdrTo L hs k) (uniqTo L k)
  | 0, _ => MsgsAt.nil w
  | k + 1, hk => by
    have ih := msgs_uniqTo h k (by omega)
    rw [hdrTo, uniqTo]
    cases hc : (uniqTo L k).contains (L.getD k [])
    · rw [addIf_no hc, addIf_no hc]
      refine ih.append ⟨rfl, fun i hi => ?_⟩
      obtain rfl : i = 0 := by simp at hi; omega
      have hkL : k < L.length := by omega
      have hkh : k < hs.length := by rw [h.1]; exact hkL
      refine ⟨_, rfl, ?_⟩
      show MsgAt w (hs.getD k (.slice none 0 0)) (L.getD k [])
      rw [getD_of hs k hkh, getD_of L k hkL]
      exact h.get k hkh hkL
    · rw [addIf_yes hc, addIf_yes hc]; exact ih
theorem ok_uniqTo {L : List (List Int)} (oL : ∀ b ∈ L, BytesOk b) (k : Nat) (hk : k ≤ L.length) : ∀ b ∈ uniqTo L k, BytesOk b := fun b hb => by
  obtain ⟨j, hj, rfl⟩ := (mem_uniqTo L k b).1 hb
  rw [getD_of L j (by omega)]
  exact oL _ (List.getElem_mem _)
theorem len_of_uniqTo {L : List (List Int)} {m : Nat} (hL : ∀ b ∈ L, b.length ≤ m) (k : Nat) (hk : k ≤ L.length) : ∀ b ∈ uniqTo L k, b.length ≤ m := fun b hb => by
  obtain ⟨j, hj, rfl⟩ := (mem_uniqTo L k b).1 hb
  rw [getD_of L j (by omega)]
  exact hL _ (List.getElem_mem _)
theorem GoFrom.put' {B : Nat} {w : World} {go go' : Option Nat} (h : GoFrom B go) (hB : B ≤ w.heap.size) (hg : go' = go ∨ ∃ g, go' = some g ∧ w.heap.size ≤ g) : GoFrom B go' := fun k hk => by
  rcases hg with rfl | ⟨g, rfl, hg⟩
  · exact h k hk
  · obtain rfl := Option.some.inj hk; omega

theorem eqMsg_is (w : World) (u v : Value) (A B : List Int) (b : Bool) (hA : MsgAt w u A) (hB : MsgAt w v B) (hAm : A.length ≤ 4294967296) (hb : (A == B) = b) :
    Calls Try.prog 18 #[u, v] w fun e w' => e = .returned (.bool b) ∧ ∃ n, w' = w.drewN n := by
  rw [← hb]; exact eqMsg w u v A B hA hB hAm
set_option maxHeartbeats 2000000 in
set_option maxRecDepth 100000 in
theorem lawB_main (w : World) (r0 : Option Nat) (v0 : Value) (hs0 : List Value) (L : List (List Int)) (h0 : Lies w r0 v0 hs0) (m0 : MsgsAt w hs0 L) (oL : ∀ b ∈ L, BytesOk b) :
    Calls Try.prog 4 #[v0] w fun e w' => e = .returned (.bool true) ∧ Below w.heap.size w w' := by
  obtain ⟨a0, c0, rfl, _⟩ := h0.open
  have HSL := hid m0.1
  go_enter Try.func4, Try.ntmps4
  go_wp2_with fail
  refine (bytes16 w r0 _ hs0 L h0 m0).mono ?_
  rintro e w' ⟨⟨b, rfl⟩, rfl⟩
  cases b
  · go_wp2_with fail
    go_ret
    exact ⟨rfl, Below.refl _ _⟩
  by_cases hbig0 : (hs0.length : Int) ≤ 4096
  rotate_left
  · go_wp2_with fail
    go_ret
    exact ⟨rfl, Below.refl _ _⟩
  go_wp2_with fail
  refine (addSize _ _ r0 _ hs0 L h0 m0 (by omega) (by omega)).mono ?_
  rintro e w' ⟨u0, rfl, rfl, hu0, hu0', hu0''⟩
  by_cases hbig : u0 ≤ 1048576
  rotate_left
  · go_wp2_with fail
    go_ret
    exact ⟨rfl, Below.refl _ _⟩
  have hB0 := hu0'' hbig
  have b0 : ∀ b ∈ L, b.length ≤ 1048576 := fun b hb => by have := mem_le_total L b hb; omega
  have l0 : L.length ≤ 4096 := by have := HSL.out; omega
  clear hB0 hu0 hu0' hu0''
  go_wp2_with fail
  refine (cloneMsgs _ r0 _ hs0 L h0 m0 (by omega) b0).mono ?_
  rintro e w1 ⟨x1, rw1, hsW, rfl, hb1, hf1, hr1, hm1⟩
  go_wp2_with fail
  refine (cloneMsgs _ r0 _ hs0 L (h0.later hb1) (m0.later hb1) (by omega) b0).mono ?_
  rintro e w2 ⟨x2, rw2, hsM, rfl, hb2, hf2, hr2, hm2⟩
  have hB2 := hb1.trans (hb2.mono hb1.size)
  have f1 := hf1.later hb2
  have g1 := hm1.at.later hb2
  have g2 := hm2.at
  have HB := hid hB2
  clear hf1 hm1 hm2 hr1 hr2 hb1 hb2 hB2 h0 m0
  go_wp2_with fail
  refine (newQueue _).mono ?_
  rintro e w7 ⟨rfl, hb7, hq7⟩
  go_wp2_with fail
  have HM := hid g2.1
  have HW := hid g1.1
  go_loopw [5] (fun t w' => ∃ k : Nat, k ≤ L.length ∧ t = .int .i64 k ∧ Below w2.heap.size w2 w' ∧ ∃ qv go, QAt w' w2.heap.size qv go (hdrTo L hsM k) ∧ GoFrom w2.heap.size go) (fun t _ => L.length - (intOf t).toNat)
  case atStart => exact ⟨0, by omega, rfl, hb7, _, none, hq7, fun k hk => by cases hk⟩
  case round =>
    obtain ⟨k, hk, rfl, hbel, qv, go, hq, hgo⟩ := hrel
    by_cases hlt : k < L.length
    · have hkM : k < hsM.length := by rw [HM.out]; exact hlt
      obtain ⟨b, hx2, hcell⟩ := (hf2.later hbel).cell k hkM
      subst hx2
      have mk := (g2.later hbel).get k hkM hlt
      obtain ⟨p1, p3, e1, _⟩ := mk.open
      have HX : Hid (hdrTo L hsM (k + 1) = addIf (uniqTo L k) L[k] (hdrTo L hsM k) (.slice p1 L[k].length p3)) := by
        unfold Hid
        rw [hdrTo, getD_of L k hlt, getD_of hsM k hkM, e1]
      rw [e1] at hcell mk
      have muq := msgs_uniqTo (g2.later hbel) k hk
      have ouq := ok_uniqTo oL k hk
      have luq := len_uniqTo L k
      have ok := oL _ (List.getElem_mem hlt)
      clear e1
      have i1 : (k : Int) < (L.length : Int) := by omega
      go_wp2_with (go_at_call 17; refine (putUnlessEq _ _ qv go _ _ _ _ _ L[k] hq muq ouq mk ok (by omega)).mono ?_; rintro e w8 ⟨rfl, qv', go', hq', ht', hg'⟩)
      go_roundw
      case rel => exact ⟨k + 1, by omega, by go_num, hbel.trans (ht'.below hbel.size (Nat.le_refl _) hgo), qv', go', by rw [HX.out]; exact hq', hgo.put' hbel.size hg'⟩
      case measure => simp [intOf]; omega
    · obtain rfl : k = L.length := by omega
      obtain ⟨wA, rfl⟩ : ∃ wA : World, wA = wr := ⟨_, rfl⟩
      have mq := msgs_uniqTo (g2.later hbel) L.length (Nat.le_refl _)
      have lq := len_uniqTo L L.length
      have lh : (hdrTo L hsM L.length).length ≤ L.length := by rw [mq.1]; exact lq
      go_wp2_with fail
      refine (take_any _ _ qv go (hdrTo L hsM L.length) none (.slice none 0 0) [] _ hq (.inl ⟨rfl, rfl, rfl⟩) (by simp) (by omega) (by simp only [List.length_nil]; omega)).mono ?_
      have e1 : (hdrTo L hsM L.length).take ((L.length : Int) + 1).toNat = hdrTo L hsM L.length := List.take_of_length_le (by omega)
      rw [List.nil_append, e1]
      clear e1
      rintro e w10 ⟨y3, y4, rt2, rfl, hl10, hrt2, _, ht10⟩
      have hbel10 := hbel.trans (ht10.below hbel.size (Nat.le_refl _) hgo)
      clear hrt2 hq ht10 hgo hbel
      generalize Value.slice y3 (hdrTo L hsM L.length).length y4 = V2 at *
      obtain ⟨ti, hti, hz0, hz1, hz2⟩ := info_parts info29
      go_wp2_with (at_make; go_must (refine wpList_make_own _ rfl _ _ 22 rfl w10.heap.size 29 ti _ 1 Try.underlying22 hti hz0 hz1 .i64 .i64 _ L.length (by rfl) (by rfl) rfl (by rw [hz2]; omega) (by unfold maxLen; omega) (Nat.le_refl _) ?_); intro w11 hown11 hgr11)
      go_loopw [7, 8] (fun t u w' => ∃ k : Nat, k ≤ L.length ∧ u = .int .i64 k ∧ t = .slice (some ⟨w10.heap.size, 0, none⟩) (hdrTo L hsW k).length L.length ∧ w'.ownsRow w10.heap.size 29 1 (.slice (some ⟨w10.heap.size, 0, none⟩) (hdrTo L hsW k).length L.length) (hdrTo L hsW k).length (hdrTo L hsW k) ∧ Below w10.heap.size w10 w' ∧ w10.heap.size < w'.heap.size) (fun _ u _ => L.length - (intOf u).toNat)
      case atStart => exact ⟨0, by omega, rfl, rfl, hown11, (Below.refl _ _).grown hgr11 (Nat.le_refl _) (fun k hk => by cases hk), (hown11.lt w10.heap.size rfl).2⟩
      case round =>
        obtain ⟨k, hk, rfl, rfl, hown, hbel, hsz⟩ := hrel
        have hB2 := hbel10.trans (hbel.mono hbel10.size)
        by_cases hlt : k < L.length
        · have hkW : k < hsW.length := by rw [HW.out]; exact hlt
          obtain ⟨b, hx1, hcell⟩ := (f1.later hB2).cell k hkW
          subst hx1
          have mk := (g1.later hB2).get k hkW hlt
          obtain ⟨p1, p3, e1, _⟩ := mk.open
          have HX : Hid (hdrTo L hsW (k + 1) = addIf (uniqTo L k) L[k] (hdrTo L hsW k) (.slice p1 L[k].length p3)) := by
            unfold Hid
            rw [hdrTo, getD_of L k hlt, getD_of hsW k hkW, e1]
          rw [e1] at hcell mk
          have HU := hid (mem_uniqTo L k L[k])
          have lh : (hdrTo L hsW k).length ≤ k := by rw [(msgs_uniqTo g1 k hk).1]; exact len_uniqTo L k
          have hlk := b0 _ (List.getElem_mem hlt)
          clear e1
          obtain ⟨wo, rfl⟩ : ∃ wo : World, wo = wr := ⟨_, rfl⟩
          have i1 : (k : Int) < (L.length : Int) := by omega
          go_wp2_with fail
          go_loopw [9, 10] (fun s9 s10 w' => ∃ (j : Nat) (sn : Bool), j ≤ k ∧ s10 = .int .i64 j ∧ s9 = .bool sn ∧ (sn = true → ∃ i, i < k ∧ L.getD i [] = L[k]) ∧ (sn = false → ∀ i, i < j → L.getD i [] ≠ L[k]) ∧ ∃ n, w' = wo.drewN n) (fun s9 s10 _ => k - (intOf s10).toNat)
          case atStart => exact ⟨0, false, by omega, rfl, rfl, (fun h => by cases h), fun _ i hi => by omega, 0, rfl⟩
          case round =>
            obtain ⟨j, sn, hj, rfl, rfl, hyes, hno, n, hwr⟩ := hrel
            have HWR := hid hwr
            clear hwr
            cases sn
            · have HN := hid (hno rfl)
              clear hno hyes
              by_cases hjk : j < k
              · have hjL : j < L.length := by omega
                have hjW : j < hsW.length := by rw [HW.out]; exact hjL
                have mj0 := (g1.later hB2).get j hjW hjL
                obtain ⟨q1, q3, e2, _⟩ := mj0.open
                obtain ⟨b', hb', hcj⟩ := (f1.later hB2).cell j hjW
                obtain rfl : b = b' := by simpa using hb'
                rw [e2] at hcj mj0
                have cj : wr.cell? ⟨b, j, none⟩ = some (.slice q1 L[j].length q3) := by rw [HWR.out]; exact hcj
                have ck : wr.cell? ⟨b, k, none⟩ = some (.slice p1 L[k].length p3) := by rw [HWR.out]; exact hcell
                have mj : MsgAt wr (.slice q1 L[j].length q3) L[j] := by rw [HWR.out]; exact mj0
                have mk' : MsgAt wr (.slice p1 L[k].length p3) L[k] := by rw [HWR.out]; exact mk
                have hlj := b0 _ (List.getElem_mem hjL)
                clear e2 hcj mj0
                have i2 : (j : Int) < (L.length : Int) := by omega
                have i3 : (j : Int) < (k : Int) := by omega
                cases hc : (L[j] == L[k])
                · have HC := hid hc
                  clear hc
                  go_wp2_with fail
                  go_quiet ((go_at_call 18; exact Calls.quiet_of (v := .bool false) (eqMsg_is _ _ _ L[j] L[k] false (mj.drewN _) (mk'.drewN _) (by omega) HC.out)))
                  go_wp2
                  go_roundw
                  case rel => exact ⟨j + 1, false, by omega, by go_num, rfl, (fun h => by cases h), fun _ i hi => by by_cases e : i = j; (subst e; rw [getD_of L i hjL]; simpa using HC.out); exact HN.out i (by omega), _, by rw [HWR.out, World.drewN_drewN]⟩
                  case measure => simp [intOf]; omega
                · have HC := hid hc
                  clear hc
                  go_wp2_with fail
                  go_quiet ((go_at_call 18; exact Calls.quiet_of (v := .bool true) (eqMsg_is _ _ _ L[j] L[k] true (mj.drewN _) (mk'.drewN _) (by omega) HC.out)))
                  go_wp2
                  go_roundw
                  case rel => exact ⟨j + 1, true, by omega, by go_num, rfl, fun _ => ⟨j, hjk, by rw [getD_of L j hjL]; simpa using HC.out⟩, (fun h => by cases h), _, by rw [HWR.out, World.drewN_drewN]⟩
                  case measure => simp [intOf]; omega
              · obtain rfl : j = k := by omega
                have HC : Hid ((uniqTo L j).contains L[j] = false) := by
                  unfold Hid
                  rw [Bool.eq_false_iff]
                  intro h
                  obtain ⟨i, hi, e⟩ := HU.out.1 (List.contains_iff_mem.1 h)
                  exact HN.out i hi e
                have ck : wr.cell? ⟨b, j, none⟩ = some (.slice p1 L[j].length p3) := by rw [HWR.out]; exact hcell
                have hownr : wr.ownsRow w10.heap.size 29 1 (.slice (some ⟨w10.heap.size, 0, none⟩) (hdrTo L hsW j).length L.length) (hdrTo L hsW j).length (hdrTo L hsW j) := by rw [HWR.out]; exact hown
                have hbelr : Below w10.heap.size w10 wr := by rw [HWR.out]; exact below_drewN hbel _
                have hszr : w10.heap.size < wr.heap.size := by rw [HWR.out]; exact hsz
                go_wp2_with (at_builtin; go_must (refine wpList_append_fits _ rfl _ _ 22 rfl w10.heap.size 29 ti 1 Try.underlying22 hti hz1 w10.heap.size (hdrTo L hsW j).length L.length (hdrTo L hsW j) (by rfl) (hownr.alloc _) ⟨wr.heap.size, 0, none⟩ 1 1 [.slice p1 L[j].length p3] (by rfl) rfl (World.news_of_block (heap_alloc_new wr _)) (by simp [Value.oneCell']) (by omega) ?_); intro w12 hown12 hgr12)
                go_roundw
                case rel =>
                  have e1 : hdrTo L hsW (j + 1) = hdrTo L hsW j ++ [.slice p1 L[j].length p3] := by rw [HX.out, addIf_no HC.out]
                  have e2 : (hdrTo L hsW (j + 1)).length = (hdrTo L hsW j).length + 1 := by rw [e1]; simp
                  exact ⟨j + 1, by omega, by go_num, by rw [e2], by rw [e2, e1]; exact hown12, (hbelr.alloc (by omega) _).grown hgr12 (by simp; omega) (fun i hi => by rw [← Option.some.inj hi]; exact Nat.le_refl _), by have := hgr12.size; simp at this; omega⟩
                case measure => simp [intOf]; omega
            · have HC : Hid ((uniqTo L k).contains L[k] = true) := by
                obtain ⟨i, hi, e⟩ := hyes rfl
                exact List.contains_iff_mem.2 (HU.out.2 ⟨i, hi, e⟩)
              clear hyes hno
              have hownr : wr.ownsRow w10.heap.size 29 1 (.slice (some ⟨w10.heap.size, 0, none⟩) (hdrTo L hsW k).length L.length) (hdrTo L hsW k).length (hdrTo L hsW k) := by rw [HWR.out]; exact hown
              have hbelr : Below w10.heap.size w10 wr := by rw [HWR.out]; exact below_drewN hbel _
              have hszr : w10.heap.size < wr.heap.size := by rw [HWR.out]; exact hsz
              go_wp2_with fail
              all_goals
                go_roundw
                case rel => exact ⟨k + 1, by omega, by go_num, by rw [HX.out, addIf_yes HC.out], by rw [HX.out, addIf_yes HC.out]; exact hownr, hbelr, hszr⟩
                case measure => simp [intOf]; omega
        · obtain rfl : k = L.length := by omega
          go_wp2_with fail
          refine (eqMsgs_true _ rt2 (some w10.heap.size) V2 _ _ (hdrTo L hsW L.length) (uniqTo L L.length) (uniqTo L L.length) (hl10.later hbel) ?_ (msgs_uniqTo (g2.later hB2) _ (Nat.le_refl _)) (msgs_uniqTo (g1.later hB2) _ (Nat.le_refl _)) rfl (by omega) (fun b hb => by have := len_of_uniqTo b0 _ (Nat.le_refl _) b hb; omega)).mono ?_
          · refine ⟨_, _, rfl, .inr ⟨w10.heap.size, 0, rfl, rfl, fun j hj => ?_⟩⟩
            rw [List.getElem?_eq_getElem hj]
            have := hown.cells (g := w10.heap.size) rfl j _ (List.getElem?_eq_getElem hj)
            rwa [Addr.add_mid] at this
          rintro e w13 ⟨rfl, n13, rfl⟩
          go_wp2
          go_ret
          exact ⟨rfl, below_drewN (HB.out.trans (hB2.mono HB.out.size)) _⟩
end Go.Proofs.Qxb6613772a
