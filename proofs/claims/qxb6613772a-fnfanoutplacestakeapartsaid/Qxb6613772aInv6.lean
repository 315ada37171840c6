import Derived.Test.Qxb6613772aLaw5
namespace Go.Proofs.Qxb6613772a
open Go.RowKit
set_option linter.unusedVariables false

/-- Block g of a batch: it lies from B on and is none of the others. -/
def Lone (B : Nat) (g go gp other : Option Nat) : Prop := ∀ k, g = some k → B ≤ k ∧ go ≠ some k ∧ gp ≠ some k ∧ other ≠ some k

/-- Two places of one Fanout: k messages were put; the first place has taken iA, which lie in vA, the second iB, which lie in vB. -/
structure Two (w0 w : World) (F : Nat) (cs : List Chunk) (base k : Nat) (cv : Value) (go : Option Nat) (pv : Value) (gp : Option Nat) (ps : List Nat) (A C : List (List Int)) (P Q : Nat) (tA tB : Int) (vA : Value) (iA : Nat) (vB : Value) (iB : Nat) (cA jA cB jB : Nat) (gA gB : Option Nat) (hA hB : List Value) : Prop where
  fan : Fan w0 w F cs base k cv go pv gp ps A C
  plA : PlAt w F P cs tA iA cA jA
  plB : PlAt w F Q cs tB iB cB jB
  bA : base ≤ cA
  bB : base ≤ cB
  leA : iA ≤ k
  leB : iB ≤ k
  ownA : Own w 29 vA gA hA
  ownB : Own w 29 vB gB hB
  lenA : hA.length = iA
  lenB : hB.length = iB
  hdA : Hdrs cs 0 hA
  hdB : Hdrs cs 0 hB
  loneA : Lone w0.heap.size gA go gp gB
  loneB : Lone w0.heap.size gB go gp gA
  ne : P ≠ Q
  gpP : gp ≠ some P
  gpQ : gp ≠ some Q
  bP : w0.heap.size ≤ P
  bQ : w0.heap.size ≤ Q
def Inv6 (w0 w : World) (F k : Nat) (pv : Value) (gp : Option Nat) (ps : List Nat) (A C : List (List Int)) (P Q : Nat) (tA tB : Int) (vA : Value) (iA : Nat) (vB : Value) (iB : Nat) : Prop :=
  ∃ cs base cv go cA jA cB jB gA gB hA hB, Two w0 w F cs base k cv go pv gp ps A C P Q tA tB vA iA vB iB cA jA cB jB gA gB hA hB

section
variable {w0 w : World} {F k : Nat} {pv : Value} {gp : Option Nat} {ps : List Nat} {A C : List (List Int)} {P Q : Nat} {tA tB : Int} {vA : Value} {iA : Nat} {vB : Value} {iB : Nat}
theorem Inv6.swap (h : Inv6 w0 w F k pv gp ps A C P Q tA tB vA iA vB iB) : Inv6 w0 w F k pv gp ps A C Q P tB tA vB iB vA iA := by
  obtain ⟨cs, base, cv, go, cA, jA, cB, jB, gA, gB, hA, hB, h⟩ := h
  exact ⟨cs, base, cv, go, cB, jB, cA, jA, gB, gA, hB, hA, h.fan, h.plB, h.plA, h.bB, h.bA, h.leB, h.leA, h.ownB, h.ownA, h.lenB, h.lenA, h.hdB, h.hdA, h.loneB, h.loneA, h.ne.symm, h.gpQ, h.gpP, h.bQ, h.bP⟩
theorem Inv6.later {w1 : World} (h : Inv6 w0 w F k pv gp ps A C P Q tA tB vA iA vB iB) (hb : Below w.heap.size w w1) : Inv6 w0 w1 F k pv gp ps A C P Q tA tB vA iA vB iB := by
  obtain ⟨cs, base, cv, go, cA, jA, cB, jB, gA, gB, hA, hB, h⟩ := h
  exact ⟨cs, base, cv, go, cA, jA, cB, jB, gA, gB, hA, hB, h.fan.later hb, h.plA.kept (hb.block _ h.plA.ltP), h.plB.kept (hb.block _ h.plB.ltP), h.bA, h.bB, h.leA, h.leB, h.ownA.kept (fun k hk => hb.block k (h.ownA.lt k hk)), h.ownB.kept (fun k hk => hb.block k (h.ownB.lt k hk)), h.lenA, h.lenB, h.hdA, h.hdB, h.loneA, h.loneB, h.ne, h.gpP, h.gpQ, h.bP, h.bQ⟩
theorem Inv6.below (h : Inv6 w0 w F k pv gp ps A C P Q tA tB vA iA vB iB) : Below w0.heap.size w0 w := by
  obtain ⟨cs, base, cv, go, cA, jA, cB, jB, gA, gB, hA, hB, h⟩ := h
  exact h.fan.below
theorem Inv6.le (h : Inv6 w0 w F k pv gp ps A C P Q tA tB vA iA vB iB) : iA ≤ k := by
  obtain ⟨cs, base, cv, go, cA, jA, cB, jB, gA, gB, hA, hB, h⟩ := h
  exact h.leA
theorem Inv6.shape (h : Inv6 w0 w F k pv gp ps A C P Q tA tB vA iA vB iB) : ∃ a c, vA = .slice a iA c := by
  obtain ⟨cs, base, cv, go, cA, jA, cB, jB, gA, gB, hA, hB, h⟩ := h
  rcases own_shape h.ownA with ⟨e1, e2⟩ | ⟨g, off, cap, e1, _⟩
  · exact ⟨none, 0, by rw [e1, ← h.lenA, e2]⟩
  · exact ⟨_, cap, by rw [e1, ← h.lenA]⟩

theorem inv_put (h : Inv6 w0 w F k pv gp [P, Q] A C P Q tA tB vA iA vB iB) (hk : k ≤ 1048575) (hn : (atM A k).length + (atM C k).length ≤ 65535)
    (a1 a2 : Option Addr) (c1 c2 : Nat) (hX : MsgAt w0 (.slice a1 (atM A k).length c1) (atM A k)) (hY : MsgAt w0 (.slice a2 (atM C k).length c2) (atM C k)) :
    Calls Try.prog 24 #[.pointer (some ⟨F, 0, none⟩), .slice a1 (atM A k).length c1, .slice a2 (atM C k).length c2] w fun e w' => (∃ v, e = .returned v) ∧ Inv6 w0 w' F (k + 1) pv gp [P, Q] A C P Q tA tB vA iA vB iB := by
  obtain ⟨cs, base, cv, go, cA, jA, cB, jB, gA, gB, hA, hB, h⟩ := h
  refine (put_fan h.fan [cA, cB] rfl (fun i hi hi' => ?_) (fun x hx => ?_) hk (by simp) hn a1 a2 c1 c2 hX hY).mono ?_
  · match i, hi with
    | 0, _ => exact ⟨tA, iA, jA, h.plA⟩
    | 1, _ => exact ⟨tB, iB, jB, h.plB⟩
  · simp only [List.mem_cons, List.not_mem_nil, or_false] at hx
    rcases hx with rfl | rfl
    · exact h.bA
    · exact h.bB
  · rintro e w' ⟨v, cs', base', cv', go', rfl, hv, hF, hb, hgo, hpl, hhd, hown, hsz⟩
    have lone : ∀ g o, Lone w0.heap.size g go gp o → (∀ k, g = some k → k < w.heap.size) → Lone w0.heap.size g go' gp o := fun g o hl hlt k hk => by
      obtain ⟨l1, l2, l3, l4⟩ := hl k hk
      refine ⟨l1, fun e => ?_, l3, l4⟩
      rcases hgo with e1 | ⟨g2, e1, e2⟩
      · exact l2 (e1.symm.trans e)
      · have h5 := hlt k hk
        have h6 := Option.some.inj (e1.symm.trans e)
        omega
    have leA := h.leA
    have leB := h.leB
    exact ⟨⟨v, rfl⟩, cs', base', cv', go', cA, jA, cB, jB, gA, gB, hA, hB, hF, hpl _ _ _ _ _ h.plA, hpl _ _ _ _ _ h.plB, hb cA (by simp), hb cB (by simp), by omega, by omega, hown _ _ _ h.ownA (fun k hk => (h.loneA k hk).2.1), hown _ _ _ h.ownB (fun k hk => (h.loneB k hk).2.1), h.lenA, h.lenB, hhd _ _ h.hdA, hhd _ _ h.hdB, lone _ _ h.loneA h.ownA.lt, lone _ _ h.loneB h.ownB.lt, h.ne, h.gpP, h.gpQ, h.bP, h.bQ⟩

theorem inv_len (h : Inv6 w0 w F k pv gp ps A C P Q tA tB vA iA vB iB) (hk : k ≤ 1048576) :
    Calls Try.prog 26 #[.pointer (some ⟨P, 0, none⟩)] w fun e w' => e = .returned (.int .i64 ((k : Int) - (iA : Int))) ∧ Inv6 w0 w' F k pv gp ps A C P Q tA tB vA iA vB iB := by
  have h' := h
  obtain ⟨cs, base, cv, go, cA, jA, cB, jB, gA, gB, hA, hB, h⟩ := h
  refine (len26 w F P tA iA k cA _ _ _ _ _ h.leA hk h.plA.row h.fan.fat.row).mono ?_
  rintro e w' ⟨rfl, hb⟩
  exact ⟨ret_int (by have := h.leA; omega), h'.later hb⟩

theorem inv_take (h : Inv6 w0 w F k pv gp ps A C P Q tA tB vA iA vB iB) (hk : k ≤ 1048576) (hm : ∀ i, i < k → (atM A i).length + (atM C i).length ≤ 65535) (n : Int) (K : Nat) (hK : (K : Int) = max 0 (min n ((k : Int) - (iA : Int)))) :
    Calls Try.prog 27 #[.pointer (some ⟨P, 0, none⟩), vA, .int .i64 n] w fun e w' => ∃ v', e = .returned v' ∧ Inv6 w0 w' F k pv gp ps A C P Q tA tB v' (iA + K) vB iB := by
  obtain ⟨cs, base, cv, go, cA, jA, cB, jB, gA, gB, hA, hB, h⟩ := h
  have leA := h.leA
  have lenA := h.lenA
  refine (take_fan h.fan P tA iA cA jA h.plA h.bA h.leA hk hm vA gA hA h.ownA (by omega) (fun k hk => ⟨(h.loneA k hk).2.1, (h.loneA k hk).2.2.1⟩) h.gpP h.bP (fun k hk => (h.loneA k hk).1) n K (by rw [hK]; congr 2; omega)).mono ?_
  rintro e w' ⟨v', gA', hs', c', j', rfl, hown, hg, hl, hhd, hF, hpl, hc, hoth, hkeep, hsz⟩
  have bP := h.fan.below.size
  have fatlt := h.fan.fat.lt
  refine ⟨v', rfl, cs, base, cv, go, c', j', cB, jB, gA', gB, hA ++ hs', hB, hF, hpl, hoth Q _ _ _ _ h.ne.symm h.plB, Nat.le_trans h.bA hc, h.bB, by omega, h.leB, hown, hkeep _ _ _ h.ownB (fun k hk => (h.loneB k hk).2.2.2), by rw [List.length_append]; omega, h.lenB, h.hdA.append (by rw [Nat.zero_add, h.lenA]; exact hhd), h.hdB, fun k hk => ?_, fun k hk => ?_, h.ne, h.gpP, h.gpQ, h.bP, h.bQ⟩
  · rcases hg with rfl | ⟨g, rfl, hge⟩
    · exact h.loneA k hk
    · obtain rfl := Option.some.inj hk
      refine ⟨by omega, fun e => ?_, fun e => ?_, fun e => ?_⟩
      · have := fatlt g (.inr (.inl e)); omega
      · have := fatlt g (.inr (.inr (.inr e))); omega
      · have := h.ownB.lt g e; omega
  · obtain ⟨l1, l2, l3, l4⟩ := h.loneB k hk
    refine ⟨l1, l2, l3, fun e => ?_⟩
    rcases hg with rfl | ⟨g, rfl, hge⟩
    · exact l4 e
    · have := h.ownB.lt k hk
      have := Option.some.inj e
      omega

theorem inv_eq (h : Inv6 w0 w F k pv gp ps A C P Q tA tB vA iA vB iB) (hi : iA = k) (hk : k ≤ 1048576) (hm : ∀ i, i < k → (atM A i).length + (atM C i).length ≤ 65535) (r : Option Nat) (vW : Value) (hsW : List Value) (hW : Lies w0 r vW hsW) (mW : MsgsAt w0 hsW (wantM A C k)) :
    Calls Try.prog 14 #[vA, vW] w fun e w' => e = .returned (.bool true) ∧ Inv6 w0 w' F k pv gp ps A C P Q tA tB vA iA vB iB := by
  have h' := h
  obtain ⟨cs, base, cv, go, cA, jA, cB, jB, gA, gB, hA, hB, h⟩ := h
  refine (eqMsgs_true w gA r vA vW hA hsW (msgs cs) (wantM A C k) h.ownA.lies (hW.later h.fan.below) (h.hdA.msgs h.fan.fat (by rw [h.lenA, h.fan.msgs, len_wantM, hi])) (mW.later h.fan.below) h.fan.msgs (by rw [h.fan.msgs, len_wantM]; omega) (fun b hb => by rw [h.fan.msgs] at hb; have := mem_wantM A C 65535 k hm b hb; omega)).mono ?_
  rintro e w' ⟨rfl, n, rfl⟩
  exact ⟨rfl, h'.later (below_drewN (Below.refl _ _) _)⟩
end

theorem takeCount (s n : Int) (w : World) (hn : 0 ≤ n) : Calls Try.prog 29 #[.int .i64 s, .int .i64 n] w fun e w' => e = .returned (.int .i64 (max 0 (min s n))) ∧ w' = w := by
  by_cases h : s < 0
  · go_enter Try.func29, Try.ntmps29
    go_wp2
    go_ret
    exact ⟨ret_int (by show 0 = max 0 (min s n); omega), rfl⟩
  · go_enter Try.func29, Try.ntmps29
    go_wp2_with fail
    refine (zzMin_any s n _).mono ?_
    rintro e w' ⟨rfl, hw⟩
    obtain rfl := hw.symm
    generalize hm : min s n = m
    have hmm : m = max 0 m := by omega
    have HM := hid hmm
    have HMN := hid hm
    clear hmm hm
    go_wp2_with fail
    go_ret
    exact ⟨ret_int (by rw [HMN.out]; exact HM.out), rfl⟩

/-- make([][]byte, 0, c). -/
theorem make_hdrs (c : Nat) (hc : c ≤ 1048576) : ∃ Z : Array Value, Z.size = c ∧ ∀ w : World, (Instr.makeSlice 22 (.int .i64 0) (.int .i64 (c : Int))).run Try.prog w = .ok (.slice (some ⟨w.heap.size, 0, none⟩) 0 c) (w.alloc (.cells Z 29)) := by
  obtain ⟨i, hi, hz0, hz1, hz2⟩ := info_parts info29
  refine ⟨madeCells (Value.slice none 0 0).cells (c * i.size), by rw [hz1, Nat.mul_one]; exact size_madeCells _ _, fun w => ?_⟩
  have hr := run_make (P := Try.prog) w 22 29 i _ Try.underlying22 hi hz0 .i64 .i64 0 c (Int.le_refl _) (by omega) (by rw [hz2]; omega) (by omega)
  simp only [Int.toNat_zero, Int.toNat_natCast] at hr
  exact hr

/-- The two batches as they are made. -/
theorem inv_start {w0 w : World} {F : Nat} {pv : Value} {gp : Option Nat} {A C : List (List Int)} {P Q : Nat} {tA tB : Int} {Z : Array Value} {c : Nat} (hn : FNew w w0.heap.size F pv gp [P, Q]) (hb : Below w0.heap.size w0 w)
    (hP : w.heap[P]? = some (.cells (plCells F tA 0 0 0) 70 (0, 0))) (hQ : w.heap[Q]? = some (.cells (plCells F tB 0 0 0) 70 (0, 0))) (hne : P ≠ Q) (gP : gp ≠ some P) (gQ : gp ≠ some Q) (bP : w0.heap.size ≤ P) (bQ : w0.heap.size ≤ Q) (hZ : Z.size = c) :
    Inv6 w0 ((w.alloc (.cells Z 29)).alloc (.cells Z 29)) F 0 pv gp [P, Q] A C P Q tA tB (.slice (some ⟨w.heap.size, 0, none⟩) 0 c) 0 (.slice (some ⟨w.heap.size + 1, 0, none⟩) 0 c) 0 := by
  have b1 : Below w.heap.size w ((w.alloc (.cells Z 29)).alloc (.cells Z 29)) := ((Below.refl _ _).alloc (Nat.le_refl _) _).alloc (by simp) _
  have hF := (Fan.start (A := A) (C := C) hn hb).later b1
  have e1 : (w.alloc (.cells Z 29)).heap.size = w.heap.size + 1 := by simp
  have o1 : ((w.alloc (.cells Z 29)).alloc (.cells Z 29)).heap[w.heap.size]? = some (.cells Z 29 (0, 0)) := by
    rw [Below.heap_alloc _ _ _ (by simp)]; exact heap_alloc_new w _
  have o2 : ((w.alloc (.cells Z 29)).alloc (.cells Z 29)).heap[w.heap.size + 1]? = some (.cells Z 29 (0, 0)) := by
    rw [← e1]; exact heap_alloc_new _ _
  have hsz := hb.size
  have ltgp : ∀ k, gp = some k → k < w.heap.size := fun k hk => (hn.at.bgp k hk).2.1
  refine ⟨[], 0, _, none, 0, 0, 0, 0, some w.heap.size, some (w.heap.size + 1), [], [], hF, (pl_start hP).kept (b1.block _ (pl_start hP).ltP), (pl_start hQ).kept (b1.block _ (pl_start hQ).ltP), Nat.le_refl _, Nat.le_refl _, Nat.le_refl _, Nat.le_refl _, .inr ⟨_, 0, c, Z, rfl, rfl, o1, Nat.zero_le _, by omega, fun i hi => by simp at hi⟩, .inr ⟨_, 0, c, Z, rfl, rfl, o2, Nat.zero_le _, by omega, fun i hi => by simp at hi⟩, rfl, rfl, Hdrs.nil _ _, Hdrs.nil _ _, fun k hk => ?_, fun k hk => ?_, hne, gP, gQ, bP, bQ⟩
  · obtain rfl := Option.some.inj hk
    refine ⟨hsz, (fun e => by cases e), fun e => ?_, fun e => ?_⟩
    · have := ltgp _ e; omega
    · have := Option.some.inj e; omega
  · obtain rfl := Option.some.inj hk
    refine ⟨by omega, (fun e => by cases e), fun e => ?_, fun e => ?_⟩
    · have := ltgp _ e; omega
    · have := Option.some.inj e; omega
end Go.Proofs.Qxb6613772a
