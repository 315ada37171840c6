import Derived.Test.Qxb6613041aBuild
import Derived.Deep.DeepCutAuto
namespace Go.Proofs.Qxb6613041a
open Go.RowKit
set_option linter.unusedVariables false
set_option linter.unusedSimpArgs false

theorem zzb3_yes (w : World) (a1 a2 : Option Addr) (n1 c1 n2 c2 : Nat) (p pp f : Int) (A B C D : Array Value) (hA : A.size = 16) (hB : B.size = 16) (hC : C.size = 2) (hD : D.size = 6) (h : n1 + n2 ≤ 1048576) :
    Calls Try.prog 5 #[.slice a1 n1 c1, .int .u16 p, .slice a2 n2 c2, .agg A, .agg B, .int .u16 pp, .agg C, .agg D, .int .i64 f] w fun e w' => e = .returned (.bool true) ∧ Below w.heap.size w w' := by
  go_enter Try.func5, Try.ntmps5
  go_wp2
  go_ret
  exact ⟨rfl, (((((Below.refl _ _).alloc (Nat.le_refl _) _).alloc (by simp) _).alloc (by simp; omega) _).alloc (by simp; omega) _)⟩
theorem zzb3_no (w : World) (a1 a2 : Option Addr) (n1 c1 n2 c2 : Nat) (p pp f : Int) (A B C D : Array Value) (hA : A.size = 16) (hB : B.size = 16) (hC : C.size = 2) (hD : D.size = 6) (h : ¬ n1 + n2 ≤ 1048576) :
    Calls Try.prog 5 #[.slice a1 n1 c1, .int .u16 p, .slice a2 n2 c2, .agg A, .agg B, .int .u16 pp, .agg C, .agg D, .int .i64 f] w fun e w' => e = .returned (.bool false) ∧ Below w.heap.size w w' := by
  go_enter Try.func5, Try.ntmps5
  go_wp2
  all_goals
    go_ret
    exact ⟨rfl, (((((Below.refl _ _).alloc (Nat.le_refl _) _).alloc (by simp) _).alloc (by simp; omega) _).alloc (by simp; omega) _)⟩

theorem range_of_block {w : World} {b : Nat} {cs : List Value} {t : TypeId} {fr : Nat × Nat} (hb : w.heap[b]? = some (.cells cs.toArray t fr)) : w.rangeAt b 0 cs := fun j v hv => by
  rw [Nat.zero_add, cell_of_row w b j _ t fr hb]; simpa using hv
theorem range_later {w w' : World} {b o : Nat} {cs : List Value} (h : w.rangeAt b o cs) (hb : Below w.heap.size w w') : w'.rangeAt b o cs := fun j v hv => cell_later hb (h j v hv)
/-- The four boxes of the parameters. -/
abbrev boxed (w : World) (tee pl X D : List Value) : World :=
  (((w.alloc (.cells tee.toArray 24)).alloc (.cells pl.toArray 24)).alloc (.cells X.toArray 25)).alloc (.cells D.toArray 26)
/-- What lies in them. -/
structure InBoxes (w' : World) (H0 H1 H2 H3 : Nat) (tee pl X D : List Value) : Prop where
  r0 : w'.rangeAt H0 0 tee
  r1 : w'.rangeAt H1 0 pl
  r2 : w'.rangeAt H2 0 X
  r3 : w'.rangeAt H3 0 D
theorem InBoxes.later {w w' : World} {H0 H1 H2 H3 : Nat} {tee pl X D : List Value} (h : InBoxes w H0 H1 H2 H3 tee pl X D) (hb : Below w.heap.size w w') : InBoxes w' H0 H1 H2 H3 tee pl X D :=
  ⟨range_later h.r0 hb, range_later h.r1 hb, range_later h.r2 hb, range_later h.r3 hb⟩
theorem boxed_in (w : World) (tee pl X D : List Value) : InBoxes (boxed w tee pl X D) w.heap.size (w.heap.size + 1) (w.heap.size + 1 + 1) (w.heap.size + 1 + 1 + 1) tee pl X D := by
  have hC : (boxed w tee pl X D).heap[w.heap.size]? = some (.cells tee.toArray 24 (0, 0)) := by
    rw [Below.heap_alloc _ _ _ (by simp; omega), Below.heap_alloc _ _ _ (by simp; omega), Below.heap_alloc _ _ _ (by simp)]; exact heap_alloc_new w _
  have hD : (boxed w tee pl X D).heap[w.heap.size + 1]? = some (.cells pl.toArray 24 (0, 0)) := by
    rw [Below.heap_alloc _ _ _ (by simp), Below.heap_alloc _ _ _ (by simp)]; exact heap_alloc2_new w _ _
  have hE : (boxed w tee pl X D).heap[w.heap.size + 1 + 1]? = some (.cells X.toArray 25 (0, 0)) := by
    rw [Below.heap_alloc _ _ _ (by simp)]
    have := heap_alloc2_new (w.alloc (.cells tee.toArray 24)) (.cells pl.toArray 24) (.cells X.toArray 25)
    rwa [show (w.alloc (.cells tee.toArray 24)).heap.size = w.heap.size + 1 by simp] at this
  have hF := heap_alloc4_new w (.cells tee.toArray 24) (.cells pl.toArray 24) (.cells X.toArray 25) (.cells D.toArray 26)
  exact ⟨range_of_block hC, range_of_block hD, range_of_block hE, range_of_block hF⟩
theorem boxed_below (w : World) (tee pl X D : List Value) : Below w.heap.size w (boxed w tee pl X D) :=
  (((((Below.refl _ _).alloc (Nat.le_refl _) _).alloc (by simp) _).alloc (by simp; omega) _).alloc (by simp; omega) _)
theorem info25 : (Try.prog.info? 25).map (·.size) = some 2 := by kernel_rfl
theorem info26 : (Try.prog.info? 26).map (·.size) = some 6 := by kernel_rfl

theorem oneCell_of {cs : List Value} {q : Nat → Int} (hl : cs.length = 16) (h : ∀ i, i < 16 → cs[i]? = some (.int .u8 (q i))) : ∀ v ∈ cs, v.oneCell' = true := fun v hv => by
  obtain ⟨i, hi, rfl⟩ := List.mem_iff_getElem.1 hv
  have := h i (by omega)
  rw [List.getElem?_eq_getElem hi] at this
  simp only [Option.some.injEq] at this
  rw [this]
  rfl
theorem setRow_alloc (w : World) (old new : Array Value) (t : TypeId) : (w.alloc (.cells old t)).setRow w.heap.size new = w.alloc (.cells new t) := by
  have h : (w.heap.push (.cells old t)).modify w.heap.size (fun | .cells _ e f => .cells new e f | o => o) = w.heap.push (.cells new t) := by
    apply Array.ext_getElem?
    intro i
    rw [Array.getElem?_modify, Array.getElem?_push, Array.getElem?_push]
    by_cases e : i = w.heap.size
    · subst e; simp
    · rw [if_neg (fun h => e h.symm), if_neg e, if_neg e]
  show ({ w with heap := _ } : World) = { w with heap := _ }
  rw [← h]
  rfl
/-- 'x := y' at an array: the new variable's zero value is overwritten at once. -/
theorem wpList_store_fresh {P : Program} {ops : Array Oper} {rest : List Oper} {o : Oper} {a : Act} {w : World} {Q : Exit → Act → World → Prop} (hgd : o.guard = none) (ty : TypeId) (x y : Operand) (ho : o.op = .store ty x y)
    (cells old : Array Value) (H : Nat) (hH : w.heap.size = H) (hx : a.eval x = .pointer (some ⟨H, 0, none⟩)) (hy : a.eval y = .agg cells)
    (t : TypeId) (hi : (P.info? ty).map (·.size) = some cells.size) (hold : old.size = cells.size) (h1 : cells.all (·.oneCell') = true)
    (h : wpList P ops Q rest (a.put o.dst undef) (w.alloc (.cells cells t))) : wpList P ops Q (o :: rest) a (w.alloc (.cells old t)) := by
  subst hH
  refine wpList_store_row hgd ty x y ho w.heap.size cells hx hy t old (heap_alloc_new w _) hi hold h1 ?_
  rw [setRow_alloc]
  exact h

set_option maxHeartbeats 1000000 in
set_option maxRecDepth 100000 in
theorem law3_main (w : World) (a1 a2 : Option Addr) (n1 c1 n2 c2 : Nat) (p pp f : Int) (s t tq tp : Nat → Int) (tee pl X D : List Value)
    (h1 : Reads w a1 n1 s) (h2 : Reads w a2 n2 t) (htl : tee.length = 16) (hpl : pl.length = 16) (hXl : X.length = 2) (hDl : D.length = 6) (ht : ∀ i, i < 16 → tee[i]? = some (.int .u8 (tq i))) (hp : ∀ i, i < 16 → pl[i]? = some (.int .u8 (tp i)))
    (hn1 : n1 ≤ 65536) (hn2 : n2 ≤ 65536) (hs : 16 ≤ n1) (hf0 : 0 ≤ f) (hf : f < 16 → 16 ≤ n2) :
    Calls Try.prog 3 #[.slice a1 n1 c1, .int .u16 p, .slice a2 n2 c2, .agg tee.toArray, .agg pl.toArray, .int .u16 pp, .agg X.toArray, .agg D.toArray, .int .i64 f] w fun e w' => e = .returned (.bool true) ∧ Below w.heap.size w w' := by
  have hi24 : (Try.prog.info? 24).map (·.size) = some tee.length := by rw [htl]; exact info24
  have hi24' : (Try.prog.info? 24).map (·.size) = some pl.length := by rw [hpl]; exact info24
  have hi25 : (Try.prog.info? 25).map (·.size) = some X.length := by rw [hXl]; exact info25
  have hi26 : (Try.prog.info? 26).map (·.size) = some D.length := by rw [hDl]; exact info26
  have hsum : n1 + n2 ≤ 1048576 := by omega
  have hc1' : ∃ b1 o1, a1 = some ⟨b1, o1, none⟩ ∧ ∀ i, i < n1 → w.cell? ⟨b1, o1 + i, none⟩ = some (.int .u8 (s i)) := by
    rcases h1 with h | h
    · omega
    · exact h
  obtain ⟨b1, o1, rfl, hc1⟩ := hc1'
  have HC1 := hid hc1
  clear hc1
  have hin := boxed_in w tee pl X D
  have hbel := boxed_below w tee pl X D
  have HT := hid ht
  have HP := hid hp
  clear ht hp
  go_enter Try.func3, Try.ntmps3
  go_upto_region 7 with (first | ((with_reducible show wpList _ _ _ (Oper.mk _ (Op.load 24 (.tmp 12)) _ _ _ _ :: _) _ _); refine wpList_load_mid rfl 24 _ rfl w.heap.size 0 (by rfl) tee _ hin.r0 Try.underlying24 rfl hi24 ?_) | ((with_reducible show wpList _ _ _ (Oper.mk _ (Op.load 24 (.tmp 13)) _ _ _ _ :: _) _ _); refine wpList_load_mid rfl 24 _ rfl (w.heap.size + 1) 0 (by rfl) pl _ hin.r1 Try.underlying24 rfl hi24' ?_) | ((with_reducible show wpList _ _ _ (Oper.mk _ (Op.load 25 (.tmp 15)) _ _ _ _ :: _) _ _); refine wpList_load_mid rfl 25 _ rfl (w.heap.size + 1 + 1) 0 (by rfl) X _ hin.r2 Try.underlying25 rfl hi25 ?_) | ((with_reducible show wpList _ _ _ (Oper.mk _ (Op.load 26 (.tmp 16)) _ _ _ _ :: _) _ _); refine wpList_load_mid rfl 26 _ rfl (w.heap.size + 1 + 1 + 1) 0 (by rfl) D _ hin.r3 Try.underlying26 rfl hi26 ?_) | (go_at_call 5; refine (zzb3_yes _ _ _ _ _ _ _ _ _ _ _ _ _ _ (by simpa using htl) (by simpa using hpl) (by simpa using hXl) (by simpa using hDl) hsum).mono ?_; rintro e w1 ⟨rfl, hb1⟩))
  go_cut [60] (fun v w' => v = .bool false ∧ w1 = w')
  case first =>
    by_cases hf16 : f < 16
    · have hn2' := hf hf16
      go_wp2
      go_meet
      case rel => exact ⟨congrArg Value.bool (by simp; omega), rfl⟩
    · go_wp2
      go_meet
      case rel => exact ⟨congrArg Value.bool (by simp; omega), rfl⟩
  case rest =>
  obtain ⟨rfl, rfl⟩ := hcut
  go_wp2_with (go_at_call 6; refine (buildLevel _ _ _ _ _ _ _ _ s t (h1.later (hbel.trans (hb1.mono hbel.size))) (h2.later (hbel.trans (hb1.mono hbel.size))) hn1 hn2 (by omega)).mono ?_; rintro e w2 ⟨rfl, hb2, hlv⟩)
  have hB2 := hb1.trans (hb2.mono hb1.size)
  have hin2 := hin.later hB2
  have hW := hbel.trans (hB2.mono hbel.size)
  clear hin hB2 hbel hb1 hb2
  generalize w.heap.size + 1 + 1 + 1 = H3 at *
  generalize w.heap.size + 1 + 1 = H2 at *
  generalize w.heap.size + 1 = H1 at *
  generalize w1.heap.size = bL at *
  refine wp_region_noPanic ?_
  refine wp_region_held_drew (S := fun w' => InBoxes w' w.heap.size H1 H2 H3 tee pl X D ∧ LevelAt w' bL p n1 n2 s t) (by kernel_rfl) ⟨⟨hin2.r0, hin2.r1, hin2.r2, hin2.r3⟩, hlv⟩ (fun hHeld => ?_)
  refine wpAnyH_take (i := 1) (v := .agg tee.toArray) rfl (by kernel_rfl) (by kernel_rfl) (by kernel_rfl) (fun _ _ _ h => h) (yieldsIf_load_mid (by rfl) 24 _ rfl w.heap.size 0 (by rfl) tee _ (fun w h => h.1.r0) Try.underlying24 rfl hi24) hHeld ?_
  simp only [Act.put, List.getElem_toArray, List.getElem_cons_zero, List.getElem_cons_succ, List.setIfInBounds_toArray, List.set_cons_zero, List.set_cons_succ]
  refine wpAnyH_take (i := 2) (v := .agg pl.toArray) rfl (by kernel_rfl) (by kernel_rfl) (by kernel_rfl) (fun _ _ _ h => h) (yieldsIf_load_mid (by rfl) 24 _ rfl H1 0 (by rfl) pl _ (fun w h => h.1.r1) Try.underlying24 rfl hi24') hHeld ?_
  simp only [Act.put, List.getElem_toArray, List.getElem_cons_zero, List.getElem_cons_succ, List.setIfInBounds_toArray, List.set_cons_zero, List.set_cons_succ]
  refine wpAnyH_take (i := 4) (v := .agg X.toArray) rfl (by kernel_rfl) (by kernel_rfl) (by kernel_rfl) (fun _ _ _ h => h) (yieldsIf_load_mid (by rfl) 25 _ rfl H2 0 (by rfl) X _ (fun w h => h.1.r2) Try.underlying25 rfl hi25) hHeld ?_
  simp only [Act.put, List.getElem_toArray, List.getElem_cons_zero, List.getElem_cons_succ, List.setIfInBounds_toArray, List.set_cons_zero, List.set_cons_succ]
  refine wpAnyH_take (i := 5) (v := .agg D.toArray) rfl (by kernel_rfl) (by kernel_rfl) (by kernel_rfl) (fun _ _ _ h => h) (yieldsIf_load_mid (by rfl) 26 _ rfl H3 0 (by rfl) D _ (fun w h => h.1.r3) Try.underlying26 rfl hi26) hHeld ?_
  simp only [Act.put, List.getElem_toArray, List.getElem_cons_zero, List.getElem_cons_succ, List.setIfInBounds_toArray, List.set_cons_zero, List.set_cons_succ]
  refine wpAnyH_take (i := 0) (v := .pointer (some ⟨bL, 0, none⟩)) rfl (by kernel_rfl) (by kernel_rfl) (by kernel_rfl) (fun _ _ _ h => h) (Or.inl ⟨by rfl, fun w _ => by rfl⟩) hHeld ?_
  simp only [Act.put, List.getElem_toArray, List.getElem_cons_zero, List.getElem_cons_succ, List.setIfInBounds_toArray, List.set_cons_zero, List.set_cons_succ]
  refine wpAnyH_take (i := 3) (v := .int .u16 pp) rfl (by kernel_rfl) (by kernel_rfl) (by kernel_rfl) (fun _ _ _ h => h) (Or.inl ⟨by rfl, fun w _ => by rfl⟩) hHeld ?_
  simp only [Act.put, List.getElem_toArray, List.getElem_cons_zero, List.getElem_cons_succ, List.setIfInBounds_toArray, List.set_cons_zero, List.set_cons_succ]
  refine wpAnyH_take (i := 7) (v := .int .i64 f) rfl (by kernel_rfl) (by kernel_rfl) (by kernel_rfl) (fun _ _ _ h => h) (Or.inl ⟨by rfl, fun w _ => by rfl⟩) hHeld ?_
  simp only [Act.put, List.getElem_toArray, List.getElem_cons_zero, List.getElem_cons_succ, List.setIfInBounds_toArray, List.set_cons_zero, List.set_cons_succ]
  refine wpAnyH_ready (rs := [6]) (by kernel_rfl) (by simp) ?_
  refine AllReadyH.cons rfl (fun K hK => ?_) AllReadyH.nil
  simp only [List.getElem_toArray, List.getElem_cons_zero, List.getElem_cons_succ]
  go_simp
  refine (newPlat _ _ _ _ tp (by simpa using hpl) (fun i hi => by simpa using HP.out i hi) (by simpa using hXl) (by simpa using hDl) _).mono ?_
  rintro e w3 ⟨rfl, hb3, hpl3⟩
  have hB3 := (Below.refl w2.heap.size w2).drew.trans hb3
  have hlv3 := hlv.later hB3
  go_wp2_with fail
  refine hK.out _ _ ⟨hin2.later hB3, hlv3⟩ (fun hHeld3 => ?_)
  clear hK hHeld K
  refine wpAnyH_ready (rs := [8]) (by kernel_rfl) (by simp) ?_
  refine AllReadyH.cons rfl (fun K hK => ?_) AllReadyH.nil
  simp only [List.getElem_toArray, List.getElem_cons_zero, List.getElem_cons_succ]
  go_simp
  refine (zzreached _ _ _ n1 n2 p pp f s t tp tq _ (by simpa using htl) (fun i hi => by simpa using HT.out i hi) hlv3 hpl3 hs hf0 hf).mono ?_
  rintro e w4 ⟨rfl, hb4⟩
  have hB4 := hB3.trans (hb4.mono hB3.size)
  have hin4 := hin2.later hB4
  have hlv4 := hlv.later hB4
  go_wp2_with fail
  refine hK.out _ _ ⟨hin4, hlv4⟩ (fun hHeld4 => ?_)
  clear hK hHeld3 K
  refine wpAnyH_take (i := 9) (v := .bool (reachedB p pp f s tp t tq)) rfl (by kernel_rfl) (by kernel_rfl) (by kernel_rfl) (fun _ _ _ h => h) (Or.inl ⟨by rfl, fun w _ => by rfl⟩) hHeld4 ?_
  simp only [Act.put, List.getElem_toArray, List.getElem_cons_zero, List.getElem_cons_succ, List.setIfInBounds_toArray, List.set_cons_zero, List.set_cons_succ]
  refine wpAnyH_done (by kernel_rfl) ?_ _
  refine NoPanic.normal ?_
  have hW4 := hW.trans (hB4.mono hW.size)
  clear hB3 hB4 hb3 hb4 hpl3 hlv3 hHeld4 hin2 hlv hW
  have hO1 := oneCell_of hpl HP.out
  have hO2 := oneCell_of htl HT.out
  go_upto_if 79 with (first | ((with_reducible show wpList _ _ _ (Oper.mk _ (Op.load 24 (.tmp 13)) _ _ _ _ :: _) _ _); refine wpList_load_mid rfl 24 _ rfl H1 0 (by rfl) pl _ hin4.r1 Try.underlying24 rfl hi24' ?_) | ((with_reducible show wpList _ _ _ (Oper.mk _ (Op.store 24 (.tmp 21) (.tmp 74)) _ _ _ _ :: _) _ _); refine wpList_store_fresh rfl 24 _ _ rfl pl.toArray _ w4.heap.size rfl (by rfl) (by rfl) 24 (by simpa using hi24') (by simp [hpl]) (all_oneCell_toArray hO1) ?_) | ((with_reducible show wpList _ _ _ (Oper.mk _ (Op.load 24 (.tmp 12)) _ _ _ _ :: _) _ _); refine wpList_load_mid rfl 24 _ rfl w.heap.size 0 (by rfl) tee _ (World.rangeAt_alloc hin4.r0 _) Try.underlying24 rfl hi24 ?_) | ((with_reducible show wpList _ _ _ (Oper.mk _ (Op.store 24 (.tmp 23) (.tmp 76)) _ _ _ _ :: _) _ _); refine wpList_store_fresh rfl 24 _ _ rfl tee.toArray _ (w4.heap.size + 1) (by simp) (by rfl) (by rfl) 24 (by simpa using hi24) (by simp [htl]) (all_oneCell_toArray hO2) ?_))
  have hm1 : p ≤ max p pp := Int.le_max_left ..
  obtain ⟨mp, hmp⟩ : ∃ mp, mp = max p pp := ⟨_, rfl⟩
  rw [← hmp] at hm1
  have HM := hid hmp
  clear hmp
  go_cut [22, 24] (fun v22 v24 w' => v22 = .int .u16 mp ∧ v24 = .bool (decide (p ≤ pp)) ∧ (w4.alloc (.cells pl.toArray 24)).alloc (.cells tee.toArray 24) = w')
  case first =>
    by_cases hpc : pp < p
    · go_wp2
      go_meet
      case rel => exact ⟨congrArg (Value.int .u16) (by rw [HM.out]; omega), congrArg Value.bool (by simp; omega), rfl⟩
    · go_wp2
      go_meet
      case rel => exact ⟨congrArg (Value.int .u16) (by rw [HM.out]; omega), congrArg Value.bool (by simp; omega), rfl⟩
  case rest =>
  obtain ⟨rfl, rfl, rfl⟩ := hcut
  go_wp2
  go_loopw [24, 25] (fun v24 v25 w' => ∃ (k : Nat) (nb : Bool) (R : List Value), k ≤ 16 ∧ v25 = .int .i64 k ∧ v24 = .bool nb ∧ (nb = true ↔ p ≤ pp ∧ ∀ i, i < k → s i ≤ tp i) ∧ Below w4.heap.size w4 w' ∧
      w'.heap[w4.heap.size]? = some (.cells R.toArray 24 (0, 0)) ∧ R.length = 16 ∧ (∀ i, i < 16 → R[i]? = some (.int .u8 (if i < k then max (s i) (tp i) else tp i))) ∧ w'.heap[w4.heap.size + 1]? = some (.cells tee.toArray 24 (0, 0))) (fun _ v25 _ => 16 - (intOf v25).toNat)
  case atStart =>
    refine ⟨0, _, pl, by omega, rfl, rfl, by simp, ((Below.refl _ _).alloc (Nat.le_refl _) _).alloc (by simp) _, ?_, hpl, fun i hi => by simpa using HP.out i hi, heap_alloc2_new _ _ _⟩
    rw [Below.heap_alloc _ _ _ (by simp)]; exact heap_alloc_new _ _
  case round =>
    obtain ⟨k, nb, R, hk, rfl, rfl, hnb, hbel, hR, hRl, hRv, hT⟩ := hrel
    have HNB := hid hnb
    clear hnb
    have hWr := hW4.trans (hbel.mono hW4.size)
    by_cases hlt : k < 16
    · have hcs := cell_later hWr (HC1.out k (by omega))
      have hcr : wr.cell? ⟨w4.heap.size, k, none⟩ = some (.int .u8 (tp k)) := by
        rw [cell_of_row _ _ _ _ _ _ hR]
        have := hRv k hlt
        rw [if_neg (by omega)] at this
        simpa using this
      have hfr := frozen_of_row wr w4.heap.size k _ _ hR
      have HR := hid hR
      have HT' := hid hT
      have HRv := hid hRv
      clear hR hT hRv
      have i1 : (k : Int) < 16 := by omega
      have i2 : (k : Int) < (n1 : Int) := by omega
      by_cases hc : tp k < s k
      · go_wp2
        go_quiet (fail)
        go_wp2
        go_roundw
        case rel =>
          refine ⟨k + 1, false, R.set k (.int .u8 (s k)), by omega, by go_num, rfl, ⟨fun h => by simp at h, fun h => by have := h.2 k (by omega); omega⟩, below_drewN (hbel.setCell (Nat.le_refl _) _) _, (heap_setCell_same wr _ k _ _ _ HR.out).trans (by rw [List.setIfInBounds_toArray]), by simpa using hRl, fun i hi => ?_, (heap_setCell_other wr _ _ _ (by simp)).trans HT'.out⟩
          rw [List.getElem?_set]
          by_cases e : k = i
          · subst e
            rw [if_pos rfl, if_pos (by omega), if_pos (by omega), show max (s k) (tp k) = s k by omega]
          · rw [if_neg e, HRv.out i hi]
            by_cases e2 : i < k
            · rw [if_pos e2, if_pos (by omega)]
            · rw [if_neg e2, if_neg (by omega)]
        case measure => simp [intOf]; omega
      · go_wp2
        go_quiet (fail)
        go_wp2
        go_roundw
        case rel =>
          refine ⟨k + 1, nb, R, by omega, by go_num, rfl, ?_, below_drewN hbel _, HR.out, hRl, fun i hi => ?_, HT'.out⟩
          · rw [HNB.out]
            constructor
            · rintro ⟨h1, h2⟩
              exact ⟨h1, fun i hi => by by_cases e : i = k; (subst e; omega); exact h2 i (by omega)⟩
            · rintro ⟨h1, h2⟩
              exact ⟨h1, fun i hi => h2 i (by omega)⟩
          · rw [HRv.out i hi]
            by_cases e : i = k
            · subst e
              rw [if_neg (by omega), if_pos (by omega), show max (s i) (tp i) = tp i by omega]
            · by_cases e2 : i < k
              · rw [if_pos e2, if_pos (by omega)]
              · rw [if_neg e2, if_neg (by omega)]
        case measure => simp [intOf]; omega
    · obtain rfl : k = 16 := by omega
      have HR := hid hR
      have HT' := hid hT
      have HRv : Hid (∀ i, i < 16 → R[i]? = some (.int .u8 (max (s i) (tp i)))) := fun i hi => by rw [hRv i hi, if_pos hi]
      clear hR hT hRv
      obtain ⟨w5, rfl⟩ : ∃ w5 : World, w5 = wr := ⟨_, rfl⟩
      go_wp2
      go_loopw [24, 26] (fun v24 v26 w' => ∃ (k : Int) (nb2 : Bool) (T : List Value), f ≤ k ∧ v26 = .int .i64 k ∧ v24 = .bool nb2 ∧ (nb2 = true ↔ nb = true ∧ ∀ i : Nat, f ≤ (i : Int) → (i : Int) < k → i < 16 → t i ≤ tq i) ∧ Below w4.heap.size w4 w' ∧
          w'.heap[w4.heap.size + 1]? = some (.cells T.toArray 24 (0, 0)) ∧ T.length = 16 ∧ (∀ i : Nat, i < 16 → T[i]? = some (.int .u8 (if f ≤ (i : Int) ∧ (i : Int) < k then max (t i) (tq i) else tq i))) ∧ w'.heap[w4.heap.size]? = some (.cells R.toArray 24 (0, 0))) (fun _ v26 _ => (16 - intOf v26).toNat)
      case atStart =>
        exact ⟨f, nb, tee, by omega, rfl, rfl, ⟨fun h => ⟨h, fun i hi hi' => by omega⟩, fun h => h.1⟩, hbel, HT'.out, htl, fun i hi => by rw [HT.out i hi, if_neg (by omega)], HR.out⟩
      case round =>
        obtain ⟨k, nb2, T, hk, rfl, rfl, hnb2, hbel, hTT, hTl, hTv, hRR⟩ := hrel
        have HNB2 := hid hnb2
        clear hnb2
        have hWr := hW4.trans (hbel.mono hW4.size)
        by_cases hlt : k < 16
        · obtain ⟨k, rfl⟩ := Int.eq_ofNat_of_zero_le (show 0 ≤ k by omega)
          have hn2' := hf (by omega)
          have hc2' : ∃ b2 o2, a2 = some ⟨b2, o2, none⟩ ∧ ∀ i, i < n2 → w.cell? ⟨b2, o2 + i, none⟩ = some (.int .u8 (t i)) := by
            rcases h2 with h | h
            · omega
            · exact h
          obtain ⟨b2, o2, rfl, hc2⟩ := hc2'
          have hcs := cell_later hWr (hc2 k (by omega))
          have hcr : wr.cell? ⟨w4.heap.size + 1, k, none⟩ = some (.int .u8 (tq k)) := by
            rw [cell_of_row _ _ _ _ _ _ hTT]
            have := hTv k (by omega)
            rw [if_neg (by omega)] at this
            simpa using this
          have hfr := frozen_of_row wr (w4.heap.size + 1) k _ _ hTT
          have HTT := hid hTT
          have HRR := hid hRR
          have HTv := hid hTv
          clear hTT hRR hTv hc2
          have i1 : (k : Int) < 16 := by omega
          have i2 : (k : Int) < (n2 : Int) := by omega
          by_cases hc : tq k < t k
          · go_wp2
            go_quiet (fail)
            go_wp2
            go_roundw
            case rel =>
              refine ⟨k + 1, false, T.set k (.int .u8 (t k)), by omega, by go_num, rfl, ⟨fun h => by simp at h, fun h => by have := h.2 k (by omega) (by omega) (by omega); omega⟩, below_drewN (hbel.setCell (Nat.le_succ _) _) _, (heap_setCell_same wr _ k _ _ _ HTT.out).trans (by rw [List.setIfInBounds_toArray]), by simpa using hTl, fun i hi => ?_, (heap_setCell_other wr _ _ _ (by simp)).trans HRR.out⟩
              rw [List.getElem?_set]
              by_cases e : k = i
              · subst e
                rw [if_pos rfl, if_pos (by omega), if_pos (by omega), show max (t k) (tq k) = t k by omega]
              · rw [if_neg e, HTv.out i hi]
                by_cases e2 : f ≤ (i : Int) ∧ (i : Int) < (k : Int)
                · rw [if_pos e2, if_pos (by omega)]
                · rw [if_neg e2, if_neg (by omega)]
            case measure => simp [intOf]; omega
          · go_wp2
            go_quiet (fail)
            go_wp2
            go_roundw
            case rel =>
              refine ⟨_, _, _, _, _, _, _, _, _, _, _, _, _, _, _, _, _, _, _, _, ⟨(k : Int) + 1, nb2, T, by omega, rfl, rfl, ?_, below_drewN hbel _, HTT.out, hTl, fun i hi => ?_, HRR.out⟩, rfl⟩
              · rw [HNB2.out]
                constructor
                · rintro ⟨h1, h2⟩
                  exact ⟨h1, fun i hi hi' hii => by by_cases e : i = k; (subst e; omega); exact h2 i hi (by omega) hii⟩
                · rintro ⟨h1, h2⟩
                  exact ⟨h1, fun i hi hi' hii => h2 i hi (by omega) hii⟩
              · rw [HTv.out i hi]
                by_cases e : i = k
                · subst e
                  rw [if_neg (by omega), if_pos (by omega), show max (t i) (tq i) = tq i by omega]
                · by_cases e2 : f ≤ (i : Int) ∧ (i : Int) < (k : Int)
                  · rw [if_pos e2, if_pos (by omega)]
                  · rw [if_neg e2, if_neg (by omega)]
            case measure => simp [intOf]; omega
        · have hi24R : (Try.prog.info? 24).map (·.size) = some R.length := by rw [hRl]; exact info24
          have hi24T : (Try.prog.info? 24).map (·.size) = some T.length := by rw [hTl]; exact info24
          have HTv := hid hTv
          have rT := range_of_block hTT
          have rR := range_of_block hRR
          have hin5 := hin4.later hbel
          have hlv5 := hlv4.later hbel
          clear hTT hRR hTv hin4 hlv4
          generalize w4.heap.size + 1 = HX at *
          have HG : Hid ((reachedB p pp f s tp t tq == nb2) = true) := by
            unfold Hid
            rw [beq_iff_eq, Bool.eq_iff_iff, reachedB_iff, HNB2.out, HNB.out]
            constructor
            · rintro ⟨g1, g2, g3⟩
              exact ⟨⟨g1, g2⟩, fun i hi _ hii => g3 i hii hi⟩
            · rintro ⟨⟨g1, g2⟩, g3⟩
              exact ⟨g1, g2, fun i hii hi => g3 i hi (by omega) hii⟩
          have hraised : reachedB p mp f s (fun i => max (s i) (tp i)) t (fun i => if f ≤ (i : Int) ∧ (i : Int) < k then max (t i) (tq i) else tq i) = true := by
            rw [reachedB_iff]
            refine ⟨hm1, fun i _ => by show s i ≤ max (s i) (tp i); omega, fun i hi hfi => ?_⟩
            show t i ≤ if f ≤ (i : Int) ∧ (i : Int) < k then max (t i) (tq i) else tq i
            rw [if_pos (by omega)]
            omega
          have HRA := hid hraised
          clear hraised
          go_wp2
          refine wp_region_noPanic ?_
          refine wp_region_held_drew (S := fun w' => InBoxes w' HX w4.heap.size H2 H3 T R X D ∧ LevelAt w' bL p n1 n2 s t) (by kernel_rfl) ⟨⟨rT, rR, hin5.r2, hin5.r3⟩, hlv5⟩ (fun hHeld => ?_)
          refine wpAnyH_take (i := 1) (v := .agg T.toArray) rfl (by kernel_rfl) (by kernel_rfl) (by kernel_rfl) (fun _ _ _ h => h) (yieldsIf_load_mid (by rfl) 24 _ rfl HX 0 (by rfl) T _ (fun w h => h.1.r0) Try.underlying24 rfl hi24T) hHeld ?_
          simp only [Act.put, List.getElem_toArray, List.getElem_cons_zero, List.getElem_cons_succ, List.setIfInBounds_toArray, List.set_cons_zero, List.set_cons_succ]
          refine wpAnyH_take (i := 2) (v := .agg R.toArray) rfl (by kernel_rfl) (by kernel_rfl) (by kernel_rfl) (fun _ _ _ h => h) (yieldsIf_load_mid (by rfl) 24 _ rfl w4.heap.size 0 (by rfl) R _ (fun w h => h.1.r1) Try.underlying24 rfl hi24R) hHeld ?_
          simp only [Act.put, List.getElem_toArray, List.getElem_cons_zero, List.getElem_cons_succ, List.setIfInBounds_toArray, List.set_cons_zero, List.set_cons_succ]
          refine wpAnyH_take (i := 4) (v := .agg X.toArray) rfl (by kernel_rfl) (by kernel_rfl) (by kernel_rfl) (fun _ _ _ h => h) (yieldsIf_load_mid (by rfl) 25 _ rfl H2 0 (by rfl) X _ (fun w h => h.1.r2) Try.underlying25 rfl hi25) hHeld ?_
          simp only [Act.put, List.getElem_toArray, List.getElem_cons_zero, List.getElem_cons_succ, List.setIfInBounds_toArray, List.set_cons_zero, List.set_cons_succ]
          refine wpAnyH_take (i := 5) (v := .agg D.toArray) rfl (by kernel_rfl) (by kernel_rfl) (by kernel_rfl) (fun _ _ _ h => h) (yieldsIf_load_mid (by rfl) 26 _ rfl H3 0 (by rfl) D _ (fun w h => h.1.r3) Try.underlying26 rfl hi26) hHeld ?_
          simp only [Act.put, List.getElem_toArray, List.getElem_cons_zero, List.getElem_cons_succ, List.setIfInBounds_toArray, List.set_cons_zero, List.set_cons_succ]
          refine wpAnyH_take (i := 0) (v := .pointer (some ⟨bL, 0, none⟩)) rfl (by kernel_rfl) (by kernel_rfl) (by kernel_rfl) (fun _ _ _ h => h) (Or.inl ⟨by rfl, fun w _ => by rfl⟩) hHeld ?_
          simp only [Act.put, List.getElem_toArray, List.getElem_cons_zero, List.getElem_cons_succ, List.setIfInBounds_toArray, List.set_cons_zero, List.set_cons_succ]
          refine wpAnyH_take (i := 3) (v := .int .u16 mp) rfl (by kernel_rfl) (by kernel_rfl) (by kernel_rfl) (fun _ _ _ h => h) (Or.inl ⟨by rfl, fun w _ => by rfl⟩) hHeld ?_
          simp only [Act.put, List.getElem_toArray, List.getElem_cons_zero, List.getElem_cons_succ, List.setIfInBounds_toArray, List.set_cons_zero, List.set_cons_succ]
          refine wpAnyH_take (i := 7) (v := .int .i64 f) rfl (by kernel_rfl) (by kernel_rfl) (by kernel_rfl) (fun _ _ _ h => h) (Or.inl ⟨by rfl, fun w _ => by rfl⟩) hHeld ?_
          simp only [Act.put, List.getElem_toArray, List.getElem_cons_zero, List.getElem_cons_succ, List.setIfInBounds_toArray, List.set_cons_zero, List.set_cons_succ]
          refine wpAnyH_ready (rs := [6]) (by kernel_rfl) (by simp) ?_
          refine AllReadyH.cons rfl (fun K hK => ?_) AllReadyH.nil
          simp only [List.getElem_toArray, List.getElem_cons_zero, List.getElem_cons_succ]
          go_simp
          refine (newPlat _ _ _ _ (fun i => max (s i) (tp i)) (by simpa using hRl) (fun i hi => by simpa using HRv.out i hi) (by simpa using hXl) (by simpa using hDl) _).mono ?_
          rintro e w6 ⟨rfl, hb6, hpl6⟩
          have hB6 := (Below.refl wr.heap.size wr).drew.trans hb6
          have hlv6 := hlv5.later hB6
          have hin6 : InBoxes wr HX w4.heap.size H2 H3 T R X D := ⟨rT, rR, hin5.r2, hin5.r3⟩
          go_wp2_with fail
          refine hK.out _ _ ⟨hin6.later hB6, hlv6⟩ (fun hHeld3 => ?_)
          clear hK hHeld K
          refine wpAnyH_ready (rs := [8]) (by kernel_rfl) (by simp) ?_
          refine AllReadyH.cons rfl (fun K hK => ?_) AllReadyH.nil
          simp only [List.getElem_toArray, List.getElem_cons_zero, List.getElem_cons_succ]
          go_simp
          refine (zzreached _ _ _ n1 n2 p mp f s t (fun i => max (s i) (tp i)) (fun i => if f ≤ (i : Int) ∧ (i : Int) < k then max (t i) (tq i) else tq i) _ (by simpa using hTl) (fun i hi => by simpa using HTv.out i hi) hlv6 hpl6 hs hf0 hf).mono ?_
          rw [HRA.out]
          rintro e w7 ⟨rfl, hb7⟩
          have hB7 := hB6.trans (hb7.mono hB6.size)
          go_wp2_with fail
          refine hK.out _ _ ⟨hin6.later hB7, hlv5.later hB7⟩ (fun hHeld4 => ?_)
          clear hK hHeld3 K
          refine wpAnyH_take (i := 9) (v := .bool true) rfl (by kernel_rfl) (by kernel_rfl) (by kernel_rfl) (fun _ _ _ h => h) (Or.inl ⟨by rfl, fun w _ => by rfl⟩) hHeld4 ?_
          simp only [Act.put, List.getElem_toArray, List.getElem_cons_zero, List.getElem_cons_succ, List.setIfInBounds_toArray, List.set_cons_zero, List.set_cons_succ]
          refine wpAnyH_done (by kernel_rfl) ?_ _
          refine NoPanic.normal ?_
          have hW7 := hWr.trans (hB7.mono hWr.size)
          clear hB6 hB7 hb6 hb7 hpl6 hlv6 hHeld4 hin6 hin5 hlv5 rT rR
          have hg := HG.out
          go_wp2
          go_ret
          exact ⟨rfl, hW7⟩

/-! ### The ways out ahead of the reckoning -/
set_option maxHeartbeats 1000000 in
set_option maxRecDepth 100000 in
theorem law3_far (w : World) (a1 a2 : Option Addr) (n1 c1 n2 c2 : Nat) (p pp f : Int) (tee pl X D : List Value)
    (htl : tee.length = 16) (hpl : pl.length = 16) (hXl : X.length = 2) (hDl : D.length = 6) (hsum : ¬ n1 + n2 ≤ 1048576) :
    Calls Try.prog 3 #[.slice a1 n1 c1, .int .u16 p, .slice a2 n2 c2, .agg tee.toArray, .agg pl.toArray, .int .u16 pp, .agg X.toArray, .agg D.toArray, .int .i64 f] w fun e w' => e = .returned (.bool true) ∧ Below w.heap.size w w' := by
  have hi24 : (Try.prog.info? 24).map (·.size) = some tee.length := by rw [htl]; exact info24
  have hi24' : (Try.prog.info? 24).map (·.size) = some pl.length := by rw [hpl]; exact info24
  have hi25 : (Try.prog.info? 25).map (·.size) = some X.length := by rw [hXl]; exact info25
  have hi26 : (Try.prog.info? 26).map (·.size) = some D.length := by rw [hDl]; exact info26
  have hin := boxed_in w tee pl X D
  have hbel := boxed_below w tee pl X D
  go_enter Try.func3, Try.ntmps3
  go_wp2_with (first | ((with_reducible show wpList _ _ _ (Oper.mk _ (Op.load 24 (.tmp 12)) _ _ _ _ :: _) _ _); refine wpList_load_mid rfl 24 _ rfl w.heap.size 0 (by rfl) tee _ hin.r0 Try.underlying24 rfl hi24 ?_) | ((with_reducible show wpList _ _ _ (Oper.mk _ (Op.load 24 (.tmp 13)) _ _ _ _ :: _) _ _); refine wpList_load_mid rfl 24 _ rfl (w.heap.size + 1) 0 (by rfl) pl _ hin.r1 Try.underlying24 rfl hi24' ?_) | ((with_reducible show wpList _ _ _ (Oper.mk _ (Op.load 25 (.tmp 15)) _ _ _ _ :: _) _ _); refine wpList_load_mid rfl 25 _ rfl (w.heap.size + 1 + 1) 0 (by rfl) X _ hin.r2 Try.underlying25 rfl hi25 ?_) | ((with_reducible show wpList _ _ _ (Oper.mk _ (Op.load 26 (.tmp 16)) _ _ _ _ :: _) _ _); refine wpList_load_mid rfl 26 _ rfl (w.heap.size + 1 + 1 + 1) 0 (by rfl) D _ hin.r3 Try.underlying26 rfl hi26 ?_) | (go_at_call 5; refine (zzb3_no _ _ _ _ _ _ _ _ _ _ _ _ _ _ (by simpa using htl) (by simpa using hpl) (by simpa using hXl) (by simpa using hDl) hsum).mono ?_; rintro e w1 ⟨rfl, hb1⟩))
  all_goals
    go_ret
    exact ⟨rfl, hbel.trans (hb1.mono hbel.size)⟩
set_option maxHeartbeats 1000000 in
set_option maxRecDepth 100000 in
theorem law3_out (w : World) (a1 a2 : Option Addr) (n1 c1 n2 c2 : Nat) (p pp f : Int) (tee pl X D : List Value)
    (htl : tee.length = 16) (hpl : pl.length = 16) (hXl : X.length = 2) (hDl : D.length = 6) (hsum : n1 + n2 ≤ 1048576) (h : ¬ n1 ≤ 65536 ∨ ¬ n2 ≤ 65536 ∨ f < 0 ∨ n1 < 16 ∨ (f < 16 ∧ n2 < 16)) :
    Calls Try.prog 3 #[.slice a1 n1 c1, .int .u16 p, .slice a2 n2 c2, .agg tee.toArray, .agg pl.toArray, .int .u16 pp, .agg X.toArray, .agg D.toArray, .int .i64 f] w fun e w' => e = .returned (.bool true) ∧ Below w.heap.size w w' := by
  have hi24 : (Try.prog.info? 24).map (·.size) = some tee.length := by rw [htl]; exact info24
  have hi24' : (Try.prog.info? 24).map (·.size) = some pl.length := by rw [hpl]; exact info24
  have hi25 : (Try.prog.info? 25).map (·.size) = some X.length := by rw [hXl]; exact info25
  have hi26 : (Try.prog.info? 26).map (·.size) = some D.length := by rw [hDl]; exact info26
  have hin := boxed_in w tee pl X D
  have hbel := boxed_below w tee pl X D
  have hx : 65536 < n1 ∨ (n1 ≤ 65536 ∧ 65536 < n2) ∨ (n1 ≤ 65536 ∧ n2 ≤ 65536 ∧ f < 0) ∨ (n1 ≤ 65536 ∧ n2 ≤ 65536 ∧ 0 ≤ f ∧ n1 < 16) ∨ (n1 ≤ 65536 ∧ n2 ≤ 65536 ∧ 0 ≤ f ∧ 16 ≤ n1 ∧ f < 16 ∧ n2 < 16) := by omega
  clear h
  rcases hx with g | ⟨g1, g⟩ | ⟨g1, g2, g⟩ | ⟨g1, g2, g3, g⟩ | ⟨g1, g2, g3, g4, g5, g⟩
  all_goals
    go_enter Try.func3, Try.ntmps3
    go_wp2_with (first | ((with_reducible show wpList _ _ _ (Oper.mk _ (Op.load 24 (.tmp 12)) _ _ _ _ :: _) _ _); refine wpList_load_mid rfl 24 _ rfl w.heap.size 0 (by rfl) tee _ hin.r0 Try.underlying24 rfl hi24 ?_) | ((with_reducible show wpList _ _ _ (Oper.mk _ (Op.load 24 (.tmp 13)) _ _ _ _ :: _) _ _); refine wpList_load_mid rfl 24 _ rfl (w.heap.size + 1) 0 (by rfl) pl _ hin.r1 Try.underlying24 rfl hi24' ?_) | ((with_reducible show wpList _ _ _ (Oper.mk _ (Op.load 25 (.tmp 15)) _ _ _ _ :: _) _ _); refine wpList_load_mid rfl 25 _ rfl (w.heap.size + 1 + 1) 0 (by rfl) X _ hin.r2 Try.underlying25 rfl hi25 ?_) | ((with_reducible show wpList _ _ _ (Oper.mk _ (Op.load 26 (.tmp 16)) _ _ _ _ :: _) _ _); refine wpList_load_mid rfl 26 _ rfl (w.heap.size + 1 + 1 + 1) 0 (by rfl) D _ hin.r3 Try.underlying26 rfl hi26 ?_) | (go_at_call 5; refine (zzb3_yes _ _ _ _ _ _ _ _ _ _ _ _ _ _ (by simpa using htl) (by simpa using hpl) (by simpa using hXl) (by simpa using hDl) hsum).mono ?_; rintro e w1 ⟨rfl, hb1⟩))
    go_ret
    exact ⟨rfl, hbel.trans (hb1.mono hbel.size)⟩

/-- The law, whatever the input. -/
theorem law3 (w : World) (a1 a2 : Option Addr) (n1 c1 n2 c2 : Nat) (p pp f : Int) (s t tq tp : Nat → Int) (tee pl X D : List Value)
    (htl : tee.length = 16) (hpl : pl.length = 16) (hXl : X.length = 2) (hDl : D.length = 6) (h1 : Reads w a1 n1 s) (h2 : Reads w a2 n2 t) (ht : ∀ i, i < 16 → tee[i]? = some (.int .u8 (tq i))) (hp : ∀ i, i < 16 → pl[i]? = some (.int .u8 (tp i))) :
    Calls Try.prog 3 #[.slice a1 n1 c1, .int .u16 p, .slice a2 n2 c2, .agg tee.toArray, .agg pl.toArray, .int .u16 pp, .agg X.toArray, .agg D.toArray, .int .i64 f] w fun e w' => e = .returned (.bool true) ∧ Below w.heap.size w w' := by
  by_cases hsum : n1 + n2 ≤ 1048576
  · by_cases h : ¬ n1 ≤ 65536 ∨ ¬ n2 ≤ 65536 ∨ f < 0 ∨ n1 < 16 ∨ (f < 16 ∧ n2 < 16)
    · exact law3_out w a1 a2 n1 c1 n2 c2 p pp f tee pl X D htl hpl hXl hDl hsum h
    · exact law3_main w a1 a2 n1 c1 n2 c2 p pp f s t tq tp tee pl X D h1 h2 htl hpl hXl hDl ht hp (by omega) (by omega) (by omega) (by omega) (by omega)
  · exact law3_far w a1 a2 n1 c1 n2 c2 p pp f tee pl X D htl hpl hXl hDl hsum
end Go.Proofs.Qxb6613041a
