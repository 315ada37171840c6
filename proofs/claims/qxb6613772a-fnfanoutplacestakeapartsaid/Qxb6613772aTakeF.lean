import Derived.Test.Qxb6613772aAdv3
namespace Go.Proofs.Qxb6613772a
open Go.RowKit
set_option linter.unusedVariables false

section
variable {w w' : World} {B F : Nat} {cs : List Chunk} {base put : Nat} {cv : Value} {go : Option Nat} {pv : Value} {gp : Option Nat} {ps : List Nat}
theorem FAt.kept (h : FAt w B F cs base put cv go pv gp ps) (hs : w.heap.size ≤ w'.heap.size) (hb : ∀ k, (k = F ∨ go = some k ∨ k ∈ cs.map Chunk.g ∨ gp = some k) → w'.heap[k]? = w.heap[k]?) : FAt w' B F cs base put cv go pv gp ps where
  row := (hb F (.inl rfl)).trans h.row
  own := h.own.kept (fun k hk => hb k (.inr (.inl hk)))
  chunks := fun c hc => ⟨(h.chunks c hc).1.kept (hb _ (.inr (.inr (.inl (List.mem_map.2 ⟨c, hc, rfl⟩))))), (h.chunks c hc).2⟩
  apart := h.apart
  base_le := h.base_le
  places := h.places.kept (fun k hk => hb k (.inr (.inr (.inr hk))))
  bF := h.bF
  bgo := h.bgo
  bgp := fun k hk => by obtain ⟨h1, h2, h3⟩ := h.bgp k hk; exact ⟨h1, by omega, h3⟩
/-- Every block of the Fanout lies in the heap. -/
theorem FAt.lt (h : FAt w B F cs base put cv go pv gp ps) : ∀ k, (k = F ∨ go = some k ∨ k ∈ cs.map Chunk.g ∨ gp = some k) → k < w.heap.size := by
  rintro k (rfl | hk | hk | hk)
  · exact h.ltF
  · exact h.own.lt k hk
  · obtain ⟨c, hc, rfl⟩ := List.mem_map.1 hk
    exact (h.chunks c hc).1.lt
  · exact (h.bgp k hk).2.1
theorem FAt.later (h : FAt w B F cs base put cv go pv gp ps) (hb : Below w.heap.size w w') : FAt w' B F cs base put cv go pv gp ps := h.kept hb.size (fun k hk => hb.block k (h.lt k hk))
/-- A block of another cell type is none of the Fanout's. -/
theorem FAt.off (h : FAt w B F cs base put cv go pv gp ps) {P : Nat} {cur : Array Value} {t : TypeId} (hP : w.heap[P]? = some (.cells cur t (0, 0))) (h1 : t ≠ 62) (h2 : t ≠ 5) (h3 : t ≠ 29 ∨ some P ≠ go) (h4 : gp ≠ some P) :
    ∀ k, (k = F ∨ go = some k ∨ k ∈ cs.map Chunk.g ∨ gp = some k) → k ≠ P := by
  rintro k (rfl | hk | hk | hk) rfl
  · exact ne_of_type hP h.row h1 rfl
  · rcases h3 with h3 | h3
    · rcases h.own with ⟨_, _, h5⟩ | ⟨g, off, cap, c2, h5, _, h6, _⟩
      · rw [hk] at h5; cases h5
      · rw [hk] at h5
        obtain rfl := Option.some.inj h5
        exact ne_of_type hP h6 h3 rfl
    · exact h3 hk.symm
  · obtain ⟨c, hc, rfl⟩ := List.mem_map.1 hk
    obtain ⟨c2, h6, _⟩ := (h.chunks c hc).1
    exact ne_of_type hP h6 h2 rfl
  · exact h4 hk
end

/-- The headers hs are those of the messages from number i on. -/
def Hdrs (cs : List Chunk) (i : Nat) (hs : List Value) : Prop := ∀ q (h : q < hs.length), ∃ m, (msgs cs)[i + q]? = some m ∧ Hdr cs hs[q] m
theorem Hdrs.nil (cs : List Chunk) (i : Nat) : Hdrs cs i [] := fun q h => by simp at h
theorem Hdrs.snoc {cs : List Chunk} {i : Nat} {hs : List Value} {v : Value} {m : List Int} (h : Hdrs cs i hs) (hm : (msgs cs)[i + hs.length]? = some m) (hv : Hdr cs v m) : Hdrs cs i (hs ++ [v]) := fun q hq => by
  by_cases e : q < hs.length
  · rw [List.getElem_append_left e]; exact h q e
  · have e2 : q = hs.length := by simp at hq; omega
    subst e2
    rw [List.getElem_append_right (Nat.le_refl _)]
    simp only [Nat.sub_self, List.getElem_cons_zero]
    exact ⟨m, hm, hv⟩

/-- What Take leaves. -/
def TakeDone (w : World) (B F P : Nat) (cs : List Chunk) (base put : Nat) (cv : Value) (go : Option Nat) (pv : Value) (gp : Option Nat) (ps : List Nat) (tt : Int) (i c k : Nat) (gb : Option Nat) (hsb : List Value) (e : Ending) (w' : World) : Prop :=
  ∃ bv gb' hs' c' j', e = .returned bv ∧ Own w' 29 bv gb' (hsb ++ hs') ∧ (gb' = gb ∨ ∃ g, gb' = some g ∧ w.heap.size ≤ g) ∧ hs'.length = k ∧ Hdrs cs i hs' ∧ FAt w' B F cs base put cv go pv gp ps ∧ PlAt w' F P cs tt (i + k) c' j' ∧ c ≤ c' ∧ Touch w w' P gb

theorem PlAt.kept {w w' : World} {F P : Nat} {cs : List Chunk} {tt : Int} {i c j : Nat} (h : PlAt w F P cs tt i c j) (hb : w'.heap[P]? = w.heap[P]?) : PlAt w' F P cs tt i c j := ⟨hb.trans h.row, h.num, h.le, h.lt⟩
theorem PlAt.ltP {w : World} {F P : Nat} {cs : List Chunk} {tt : Int} {i c j : Nat} (h : PlAt w F P cs tt i c j) : P < w.heap.size := (Array.getElem?_eq_some_iff.1 h.row).1
theorem touch_of_below {w w' : World} {q : Nat} {go : Option Nat} (h : Below w.heap.size w w') : Touch w w' q go := ⟨h.os, h.tape, h.output, h.size, fun k hk _ _ => h.block k hk⟩
theorem Own.type {w : World} {e : TypeId} {v : Value} {xs : List Value} {g : Nat} (h : Own w e v (some g) xs) : ∃ cur, w.heap[g]? = some (.cells cur e (0, 0)) := by
  rcases h with ⟨_, _, h⟩ | ⟨g', off, cap, cur, h1, _, h2, _⟩
  · cases h
  · obtain rfl := Option.some.inj h1
    exact ⟨cur, h2⟩

/-- Behind advance: the Fanout, the batch. -/
theorem adv_kept {wr w3 : World} {B F P : Nat} {cs : List Chunk} {base put : Nat} {cv : Value} {go : Option Nat} {pv : Value} {gp : Option Nat} {ps : List Nat} {tt : Int} {i c j : Nat} {b : Value} {gb : Option Nat} {xs : List Value}
    (hF : FAt wr B F cs base put cv go pv gp ps) (hP : PlAt wr F P cs tt i c j) (hgP : gp ≠ some P) (hown : Own wr 29 b gb xs) (hgr : wr.grownBy w3 (some P)) :
    FAt w3 B F cs base put cv go pv gp ps ∧ Own w3 29 b gb xs := by
  refine ⟨hF.kept hgr.size (fun k hk => hgr.block k (hF.lt k hk) (fun e => hF.off hP.row (by decide) (by decide) (.inl (by decide)) hgP k hk (Option.some.inj e))), hown.kept (fun k hk => hgr.block k (hown.lt k hk) (fun e => ?_))⟩
  subst hk
  obtain ⟨cur, hc⟩ := hown.type
  exact ne_of_type hc hP.row (by decide) (Option.some.inj e)

theorem take_step {w wr w3 w4 : World} {o : Obj} {B F P : Nat} {cs : List Chunk} {base put : Nat} {cv : Value} {go : Option Nat} {pv : Value} {gp : Option Nat} {ps : List Nat} {tt : Int} {i' c' j' : Nat} {b : Value} {gb gb' : Option Nat} {xs : List Value} {g1 : Nat}
    (h0 : FAt w B F cs base put cv go pv gp ps) (hF : FAt w3 B F cs base put cv go pv gp ps) (hpl : PlAt w3 F P cs tt i' c' j') (hgo : ∀ k, gb = some k → go ≠ some k ∧ gp ≠ some k)
    (hown : Own w3 29 b gb' xs) (hgb : gb' = gb ∨ ∃ g, gb' = some g ∧ w.heap.size ≤ g) (hT : Touch w wr P gb) (hgr : wr.grownBy w3 (some P)) (hgr4 : (w3.alloc o).grownBy w4 gb') (hat : some g1 = gb' ∨ g1 = (w3.alloc o).heap.size) :
    FAt w4 B F cs base put cv go pv gp ps ∧ PlAt w4 F P cs tt i' c' j' ∧ Touch w w4 P gb ∧ (some g1 = gb ∨ ∃ g, some g1 = some g ∧ w.heap.size ≤ g) := by
  have hs1 := hT.size
  have hs2 := hgr.size
  have hs3 : w3.heap.size ≤ w4.heap.size := by have := hgr4.size; simp at this; omega
  have same : ∀ k, k < w3.heap.size → some k ≠ gb' → w4.heap[k]? = w3.heap[k]? := fun k hk hne => by rw [hgr4.block k (by simp; omega) hne, Below.heap_alloc w3 o k hk]
  refine ⟨hF.kept hs3 (fun k hk => same k (hF.lt k hk) (fun e => ?_)), hpl.kept (same P hpl.ltP (fun e => ?_)), ⟨by rw [hgr4.os]; exact hgr.os.trans hT.os, by rw [hgr4.tape]; exact hgr.tape.trans hT.tape, by rw [hgr4.output]; exact hgr.output.trans hT.output, by omega, fun k hk h1 h2 => ?_⟩, ?_⟩
  · subst e
    rcases hgb with e1 | ⟨g, e1, e2⟩
    · obtain ⟨a1, a2⟩ := hgo k e1.symm
      obtain ⟨cur, hc⟩ := hown.type
      exact hF.off hc (by decide) (by decide) (.inr (fun e => a1 e.symm)) a2 k hk rfl
    · obtain rfl := Option.some.inj e1
      have := h0.lt k hk
      omega
  · subst e
    obtain ⟨cur, hc⟩ := hown.type
    exact ne_of_type hc hpl.row (by decide) rfl
  · rw [same k (by omega) (fun e => ?_), hgr.block k (by omega) (fun e => h1 (Option.some.inj e)), hT.block k hk h1 h2]
    rcases hgb with e1 | ⟨g, e1, e2⟩
    · exact h2 (e.trans e1)
    · rw [e1] at e
      have := Option.some.inj e
      omega
  · rcases hat with e | e
    · rcases hgb with e1 | ⟨g, e1, e2⟩
      · exact .inl (e.trans e1)
      · exact .inr ⟨g1, rfl, by rw [e1] at e; have := Option.some.inj e; omega⟩
    · exact .inr ⟨g1, rfl, by rw [e]; simp; omega⟩

set_option maxHeartbeats 1000000 in
set_option maxRecDepth 100000 in
theorem take42 (w : World) (B F P : Nat) (cs : List Chunk) (base put : Nat) (cv : Value) (go : Option Nat) (pv : Value) (gp : Option Nat) (ps : List Nat) (tt : Int) (i c j : Nat) (bv : Value) (gb : Option Nat) (hsb : List Value) (n : Int) (K : Nat)
    (h : FAt w B F cs base put cv go pv gp ps) (hp : PlAt w F P cs tt i c j) (hbase : base ≤ c) (hfull : ∀ ch ∈ cs, ch.ms ≠ []) (hput : put = (msgs cs).length) (hi : i ≤ put) (hsm : put ≤ 1048576)
    (hm : ∀ m ∈ msgs cs, m.length < 65536) (hcap : ∀ ch ∈ cs, ch.cap ≤ 4294967296) (hcs : cs.length ≤ 1048576)
    (hb : Own w 29 bv gb hsb) (hbl : hsb.length ≤ 1048576) (hgo : ∀ k, gb = some k → go ≠ some k ∧ gp ≠ some k) (hgP : gp ≠ some P) (hK : (K : Int) = max 0 (min n ((put - i : Nat) : Int))) :
    Calls Try.prog 42 #[.pointer (some ⟨P, 0, none⟩), bv, .int .i64 n] w fun e w' => TakeDone w B F P cs base put cv go pv gp ps tt i c K gb hsb e w' := by
  have hnn := nilFunc_ne
  have hneq := fun (w : World) (a : Option Addr) (n c : Nat) => run_neq_slice_nil_any (P := Try.prog) w 29 5 a n c 0 0 Try.underlying29
  obtain ⟨ti, hti, hz0, hz1, hz2⟩ := info_parts info29
  have HK := hid hK
  have HI := hid hi
  have HPUT := hid hput
  have hFA := h
  clear hK hput h
  by_cases hle : n ≤ ((put - i : Nat) : Int)
  · have hKT : (K : Int) = max 0 n := by have := HK.out; omega
    have hKp : K ≤ put - i := by omega
    go_enter Try.func42, Try.ntmps42
    go_wp2_with (go_at_call 41; refine (len41 w F P tt i put c _ _ _ _ _ HI.out hsm hp.row hFA.row).mono ?_; rintro e w2 ⟨rfl, hb2⟩)
    go_loopw [1, 12] (fun b t w' => ∃ (k : Nat) (gb' : Option Nat) (hs' : List Value) (c' j' : Nat), k ≤ K ∧ t = .int .i64 k ∧ Own w' 29 b gb' (hsb ++ hs') ∧ (gb' = gb ∨ ∃ g, gb' = some g ∧ w.heap.size ≤ g) ∧ hs'.length = k ∧ Hdrs cs i hs' ∧ FAt w' B F cs base put cv go pv gp ps ∧ PlAt w' F P cs tt (i + k) c' j' ∧ c ≤ c' ∧ Touch w w' P gb) (fun _ t _ => K - (intOf t).toNat)
    case atStart => exact ⟨0, gb, [], c, j, by omega, rfl, by rw [List.append_nil]; exact hb.kept (fun k hk => hb2.block k (hb.lt k hk)), .inl rfl, rfl, Hdrs.nil _ _, hFA.later hb2, hp.kept (hb2.block P hp.ltP), Nat.le_refl _, touch_of_below hb2⟩
    case round =>
      obtain ⟨k, gb', hs', c', j', hk, rfl, hown, hgb, hsl, hhs, hF, hP, hcc, hT⟩ := hrel
      by_cases hlt : k < K
      · have i1 : (k : Int) < n := by omega
        have i2 : i + k < put := by omega
        have LL : (hsb ++ hs').length ≤ 2097152 := by rw [List.length_append]; omega
        have HSL := hid hsl
        clear hsl
        go_wp2_with (first | (go_at_call 44; refine (advance P tt (i + k) c' j' hF hP (Nat.le_trans hbase hcc) hfull HPUT.out i2 hsm hm hcap hcs).mono ?_; rintro e w3 ⟨_, m, c2, j2, a, nn, rfl, rfl, hmm, hhd, hpl, hc2, hgr⟩; obtain ⟨hF3, hown3⟩ := adv_kept hF hP hgP hown hgr; have p0 : w3.cell? ⟨P, 0, none⟩ = some (.pointer (some ⟨F, 0, none⟩)) := cell_of_row _ _ _ _ _ _ hpl.row; have q0 : w3.cell? ⟨F, 0, none⟩ = some .nilFunc := cell_of_row _ _ _ _ _ _ hF3.row; have hownA : ∀ o, Own (w3.alloc o) 29 _ gb' (hsb ++ hs') := fun o => hown3.kept (fun k hk => Below.heap_alloc w3 o k (hown3.lt k hk))) | (at_builtin; go_must (refine wpList_append_at _ rfl _ _ 22 rfl 29 ti _ 24 Try.underlying22 hti hz0 hz1 hz2 rfl _ gb' (hsb ++ hs') (by rfl) (hownA _) ⟨w3.heap.size, 0, none⟩ 1 1 [.slice (some a) nn nn] (by rfl) rfl (by omega) (World.news_of_block (heap_alloc_new w3 _)) (by simp [Value.oneCell']) (by omega) (by omega) ?_); intro g1 off1 cap1 w4 hown4 hgr4 hat4))
        go_roundw
        case rel =>
          obtain ⟨r1, r2, r3, r4⟩ := take_step hFA hF3 hpl hgo hown3 hgb hT hgr hgr4 hat4
          exact ⟨k + 1, some g1, hs' ++ [.slice (some a) nn nn], c2, j2, by omega, by go_num, by rw [← List.append_assoc, ← List.length_append]; exact hown4, r4, by simp [HSL.out], hhs.snoc (by rw [HSL.out]; exact hmm) hhd, r1, r2, Nat.le_trans hcc hc2, r3⟩
        case measure => simp [intOf]; omega
      · obtain rfl : k = K := by omega
        have i1 : ¬ (k : Int) < n := by omega
        go_wp2
        go_ret
        exact ⟨_, gb', hs', c', j', rfl, hown, hgb, hsl, hhs, hF, hP, hcc, hT⟩
  · have hKT : put - i ≤ K := by have := HK.out; omega
    have hKp : K ≤ put - i := by have := HK.out; omega
    go_enter Try.func42, Try.ntmps42
    go_wp2_with (go_at_call 41; refine (len41 w F P tt i put c _ _ _ _ _ HI.out hsm hp.row hFA.row).mono ?_; rintro e w2 ⟨rfl, hb2⟩)
    go_loopw [1, 12] (fun b t w' => ∃ (k : Nat) (gb' : Option Nat) (hs' : List Value) (c' j' : Nat), k ≤ K ∧ t = .int .i64 k ∧ Own w' 29 b gb' (hsb ++ hs') ∧ (gb' = gb ∨ ∃ g, gb' = some g ∧ w.heap.size ≤ g) ∧ hs'.length = k ∧ Hdrs cs i hs' ∧ FAt w' B F cs base put cv go pv gp ps ∧ PlAt w' F P cs tt (i + k) c' j' ∧ c ≤ c' ∧ Touch w w' P gb) (fun _ t _ => K - (intOf t).toNat)
    case atStart => exact ⟨0, gb, [], c, j, by omega, rfl, by rw [List.append_nil]; exact hb.kept (fun k hk => hb2.block k (hb.lt k hk)), .inl rfl, rfl, Hdrs.nil _ _, hFA.later hb2, hp.kept (hb2.block P hp.ltP), Nat.le_refl _, touch_of_below hb2⟩
    case round =>
      obtain ⟨k, gb', hs', c', j', hk, rfl, hown, hgb, hsl, hhs, hF, hP, hcc, hT⟩ := hrel
      by_cases hlt : k < K
      · have i1 : (k : Int) < ((put - i : Nat) : Int) := by omega
        have i2 : i + k < put := by omega
        have LL : (hsb ++ hs').length ≤ 2097152 := by rw [List.length_append]; omega
        have HSL := hid hsl
        clear hsl
        go_wp2_with (first | (go_at_call 44; refine (advance P tt (i + k) c' j' hF hP (Nat.le_trans hbase hcc) hfull HPUT.out i2 hsm hm hcap hcs).mono ?_; rintro e w3 ⟨_, m, c2, j2, a, nn, rfl, rfl, hmm, hhd, hpl, hc2, hgr⟩; obtain ⟨hF3, hown3⟩ := adv_kept hF hP hgP hown hgr; have p0 : w3.cell? ⟨P, 0, none⟩ = some (.pointer (some ⟨F, 0, none⟩)) := cell_of_row _ _ _ _ _ _ hpl.row; have q0 : w3.cell? ⟨F, 0, none⟩ = some .nilFunc := cell_of_row _ _ _ _ _ _ hF3.row; have hownA : ∀ o, Own (w3.alloc o) 29 _ gb' (hsb ++ hs') := fun o => hown3.kept (fun k hk => Below.heap_alloc w3 o k (hown3.lt k hk))) | (at_builtin; go_must (refine wpList_append_at _ rfl _ _ 22 rfl 29 ti _ 24 Try.underlying22 hti hz0 hz1 hz2 rfl _ gb' (hsb ++ hs') (by rfl) (hownA _) ⟨w3.heap.size, 0, none⟩ 1 1 [.slice (some a) nn nn] (by rfl) rfl (by omega) (World.news_of_block (heap_alloc_new w3 _)) (by simp [Value.oneCell']) (by omega) (by omega) ?_); intro g1 off1 cap1 w4 hown4 hgr4 hat4))
        go_roundw
        case rel =>
          obtain ⟨r1, r2, r3, r4⟩ := take_step hFA hF3 hpl hgo hown3 hgb hT hgr hgr4 hat4
          exact ⟨k + 1, some g1, hs' ++ [.slice (some a) nn nn], c2, j2, by omega, by go_num, by rw [← List.append_assoc, ← List.length_append]; exact hown4, r4, by simp [HSL.out], hhs.snoc (by rw [HSL.out]; exact hmm) hhd, r1, r2, Nat.le_trans hcc hc2, r3⟩
        case measure => simp [intOf]; omega
      · obtain rfl : k = K := by omega
        have i1 : ¬ (k : Int) < ((put - i : Nat) : Int) := by omega
        go_wp2
        go_ret
        exact ⟨_, gb', hs', c', j', rfl, hown, hgb, hsl, hhs, hF, hP, hcc, hT⟩

theorem take27 (w : World) (B F P : Nat) (cs : List Chunk) (base put : Nat) (cv : Value) (go : Option Nat) (pv : Value) (gp : Option Nat) (ps : List Nat) (tt : Int) (i c j : Nat) (bv : Value) (gb : Option Nat) (hsb : List Value) (n : Int) (K : Nat)
    (h : FAt w B F cs base put cv go pv gp ps) (hp : PlAt w F P cs tt i c j) (hbase : base ≤ c) (hfull : ∀ ch ∈ cs, ch.ms ≠ []) (hput : put = (msgs cs).length) (hi : i ≤ put) (hsm : put ≤ 1048576)
    (hm : ∀ m ∈ msgs cs, m.length < 65536) (hcap : ∀ ch ∈ cs, ch.cap ≤ 4294967296) (hcs : cs.length ≤ 1048576)
    (hb : Own w 29 bv gb hsb) (hbl : hsb.length ≤ 1048576) (hgo : ∀ k, gb = some k → go ≠ some k ∧ gp ≠ some k) (hgP : gp ≠ some P) (hK : (K : Int) = max 0 (min n ((put - i : Nat) : Int))) :
    Calls Try.prog 27 #[.pointer (some ⟨P, 0, none⟩), bv, .int .i64 n] w fun e w' => TakeDone w B F P cs base put cv go pv gp ps tt i c K gb hsb e w' := by
  have H := take42 w B F P cs base put cv go pv gp ps tt i c j bv gb hsb n K h hp hbase hfull hput hi hsm hm hcap hcs hb hbl hgo hgP hK
  clear hput hK
  go_enter Try.func27, Try.ntmps27
  go_wp2_with (go_at_call 42; refine H.mono ?_; rintro e w2 ⟨bv', gb', hs', c', j', rfl, h1⟩)
  go_ret
  exact ⟨bv', gb', hs', c', j', rfl, h1⟩

end Go.Proofs.Qxb6613772a
