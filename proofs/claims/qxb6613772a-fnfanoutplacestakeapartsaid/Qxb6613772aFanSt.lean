import Derived.Test.Qxb6613772aPut
namespace Go.Proofs.Qxb6613772a
open Go.RowKit
set_option linter.unusedVariables false

/-- The Fanout after 'put' messages; what lay in the heap w0 lies there still. -/
structure Fan (w0 w : World) (F : Nat) (cs : List Chunk) (base put : Nat) (cv : Value) (go : Option Nat) (pv : Value) (gp : Option Nat) (ps : List Nat) (A C : List (List Int)) : Prop where
  fat : FAt w w0.heap.size F cs base put cv go pv gp ps
  full : ∀ ch ∈ cs, ch.ms ≠ []
  msgs : msgs cs = wantM A C put
  caps : ∀ ch ∈ cs, ch.cap ≤ 4294967296
  len : cs.length ≤ put
  below : Below w0.heap.size w0 w

theorem mem_wantM (A C : List (List Int)) (n : Nat) : ∀ k, (∀ i, i < k → (atM A i).length + (atM C i).length ≤ n) → ∀ m ∈ wantM A C k, m.length ≤ n
  | 0, _, m, h => by cases h
  | k + 1, hn, m, h => by
    rcases List.mem_append.1 h with h | h
    · exact mem_wantM A C n k (fun i hi => hn i (by omega)) m h
    · obtain rfl := List.mem_singleton.1 h
      rw [List.length_append]
      exact hn k (by omega)
theorem wantM_at (A C : List (List Int)) : ∀ (M k : Nat) (h : k < M) (h' : k < (wantM A C M).length), (wantM A C M)[k] = atM A k ++ atM C k
  | M + 1, k, h, h' => by
    have e : wantM A C (M + 1) = wantM A C M ++ [atM A k ++ atM C k] ∨ k < M := by
      by_cases h2 : k < M
      · exact .inr h2
      · obtain rfl : k = M := by omega
        exact .inl rfl
    by_cases h2 : k < M
    · have hl : k < (wantM A C M).length := by rw [len_wantM]; exact h2
      have e3 : (wantM A C (M + 1))[k] = (wantM A C M)[k] := List.getElem_append_left hl
      rw [e3]
      exact wantM_at A C M k h2 hl
    · obtain rfl : k = M := by omega
      have e4 : (wantM A C (k + 1))[k] = ([atM A k ++ atM C k])[k - (wantM A C k).length]'(by rw [len_wantM]; simp) := List.getElem_append_right (by rw [len_wantM]; exact Nat.le_refl _)
      rw [e4]
      simp [len_wantM]

section
variable {w0 w : World} {F : Nat} {cs : List Chunk} {base put : Nat} {cv : Value} {go : Option Nat} {pv : Value} {gp : Option Nat} {ps : List Nat} {A C : List (List Int)}
/-- A block of type 70 is none of those that Put touches. -/
theorem FAt.place_off {w : World} {B : Nat} (h : FAt w B F cs base put cv go pv gp ps) {P : Nat} {cur : Array Value} {t : TypeId} (hP : w.heap[P]? = some (.cells cur t (0, 0))) (h1 : t ≠ 62) (h2 : t ≠ 5) (h3 : t ≠ 29 ∨ some P ≠ go) : P ≠ F ∧ some P ≠ go ∧ P ∉ cs.map Chunk.g := by
  refine ⟨ne_of_type hP h.row h1, fun e => ?_, fun hm => ?_⟩
  · rcases h3 with h3 | h3
    · have h2 := h.own
      rw [← e] at h2
      obtain ⟨cur, hc⟩ := h2.type
      exact ne_of_type hP hc h3 rfl
    · exact h3 e
  · obtain ⟨c, hc, e⟩ := List.mem_map.1 hm
    obtain ⟨c2, h6, _⟩ := (h.chunks c hc).1
    exact ne_of_type hP h6 h2 e.symm

/-- What Put leaves, said of the whole. -/
def PutFan (w0 w : World) (F : Nat) (cs : List Chunk) (base put : Nat) (go : Option Nat) (pv : Value) (gp : Option Nat) (ps chs : List Nat) (A C : List (List Int)) (e : Ending) (w' : World) : Prop :=
  ∃ v cs' base' cv' go', e = .returned v ∧ MsgAt w' v (atM A put ++ atM C put) ∧ Fan w0 w' F cs' base' (put + 1) cv' go' pv gp ps A C ∧ (∀ x ∈ chs, base' ≤ x) ∧ (go' = go ∨ ∃ g, go' = some g ∧ w.heap.size ≤ g) ∧
    (∀ P tt i c j, PlAt w F P cs tt i c j → PlAt w' F P cs' tt i c j) ∧ (∀ i hs, Hdrs cs i hs → Hdrs cs' i hs) ∧ (∀ (bv : Value) g hs, Own w 29 bv g hs → (∀ k, g = some k → go ≠ some k) → Own w' 29 bv g hs) ∧ w.heap.size ≤ w'.heap.size

theorem put_fan (hf : Fan w0 w F cs base put cv go pv gp ps A C) (chs : List Nat) (hl : chs.length = ps.length)
    (hch : ∀ i (hi : i < ps.length) (hi' : i < chs.length), ∃ tt k j, PlAt w F ps[i] cs tt k chs[i] j) (hb : ∀ x ∈ chs, base ≤ x) (hput : put ≤ 1048575) (hpl : ps.length ≤ 100) (hn : (atM A put).length + (atM C put).length ≤ 65535)
    (a1 a2 : Option Addr) (c1 c2 : Nat) (hX : MsgAt w0 (.slice a1 (atM A put).length c1) (atM A put)) (hY : MsgAt w0 (.slice a2 (atM C put).length c2) (atM C put)) :
    Calls Try.prog 24 #[.pointer (some ⟨F, 0, none⟩), .slice a1 (atM A put).length c1, .slice a2 (atM C put).length c2] w fun e w' => PutFan w0 w F cs base put go pv gp ps chs A C e w' := by
  have hlen := hf.len
  have hx : ∀ x ∈ chs, x ≤ 1048576 := fun x hx => by
    obtain ⟨i, hi, rfl⟩ := List.mem_iff_getElem.1 hx
    obtain ⟨tt, k, j, hp⟩ := hch i (by rw [← hl]; exact hi) hi
    rcases hp.lt with h | ⟨_, h⟩ <;> omega
  refine (put24 w w0.heap.size F cs base put cv go pv gp ps chs hf.fat hl (fun i hi hi' => ?_) (fun x h => ⟨hb x h, hx x h⟩) (by omega) hpl hf.caps a1 a2 c1 c2 _ _ hn (by omega) (fun p hp => ?_) (fun w' hb' => hX.later (hf.below.trans hb')) (fun w' hb' => hY.later (hf.below.trans hb'))).mono ?_
  · obtain ⟨tt, k, j, hp⟩ := hch i hi hi'
    exact cell_of_row _ _ _ _ _ _ hp.row
  · obtain ⟨i, hi, rfl⟩ := List.mem_iff_getElem.1 hp
    obtain ⟨tt, k, j, hp⟩ := hch i hi (by rw [hl]; exact hi)
    exact ⟨tt, k, _, _, hp.row⟩
  · rintro e w' ⟨v, cs', base', cv', go', rfl, hv, hF, hg, hcap, hb1, hb2, hgo, hfr⟩
    refine ⟨v, cs', base', cv', go', rfl, hv, ⟨hF, hg.full hf.full, by rw [hg.msgs, hf.msgs]; rfl, hcap, by have := hg.len; omega, hf.below.trans ⟨hfr.os, hfr.tape, hfr.output, hfr.size, fun k hk => ?_⟩⟩, hb2, hgo, fun P tt i c j hp => ?_, fun i hs h => hg.hdrs h, fun bv g hs h hne => h.kept (fun k hk => ?_), hfr.size⟩
    · refine hfr.block k (by have := hf.below.size; omega) (fun e => by have := hf.fat.bF; omega) (fun e => by have := hf.fat.bgo k e.symm; omega) (fun hm => ?_)
      obtain ⟨c, hc, e⟩ := List.mem_map.1 hm
      have := (hf.fat.chunks c hc).2
      omega
    · obtain ⟨n1, n2, n3⟩ := hf.fat.place_off hp.row (by decide) (by decide) (.inl (by decide))
      exact hg.place hp (hfr.block P hp.ltP n1 n2 n3)
    · subst hk
      obtain ⟨cur, hc⟩ := h.type
      obtain ⟨n1, n2, n3⟩ := hf.fat.place_off hc (by decide) (by decide) (.inr (fun e => hne k rfl e.symm))
      exact hfr.block k (h.lt k rfl) n1 n2 n3

theorem Fan.start {w1 : World} (h : FNew w1 w0.heap.size F pv gp ps) (hb : Below w0.heap.size w0 w1) : Fan w0 w1 F [] 0 0 (.slice none 0 0) none pv gp ps A C :=
  ⟨h.at, (fun ch hc => by cases hc), rfl, (fun ch hc => by cases hc), Nat.le_refl _, hb⟩
theorem pl_start {w1 : World} {P : Nat} {tt : Int} (h : w1.heap[P]? = some (.cells (plCells F tt 0 0 0) 70 (0, 0))) : PlAt w1 F P [] tt 0 0 0 := ⟨h, rfl, Nat.le_refl _, .inr ⟨rfl, rfl⟩⟩
theorem Fan.later {w1 : World} (h : Fan w0 w F cs base put cv go pv gp ps A C) (hb : Below w.heap.size w w1) : Fan w0 w1 F cs base put cv go pv gp ps A C :=
  ⟨h.fat.later hb, h.full, h.msgs, h.caps, h.len, h.below.trans (hb.mono (by have := h.below.size; omega))⟩

/-- What Take leaves, said of the whole. -/
def TakeFan (w0 w : World) (F P : Nat) (cs : List Chunk) (base put : Nat) (cv : Value) (go : Option Nat) (pv : Value) (gp : Option Nat) (ps : List Nat) (A C : List (List Int)) (tt : Int) (i c k : Nat) (gb : Option Nat) (hsb : List Value) (e : Ending) (w' : World) : Prop :=
  ∃ bv gb' hs' c' j', e = .returned bv ∧ Own w' 29 bv gb' (hsb ++ hs') ∧ (gb' = gb ∨ ∃ g, gb' = some g ∧ w.heap.size ≤ g) ∧ hs'.length = k ∧ Hdrs cs i hs' ∧ Fan w0 w' F cs base put cv go pv gp ps A C ∧ PlAt w' F P cs tt (i + k) c' j' ∧ c ≤ c' ∧
    (∀ Q tt i c j, Q ≠ P → PlAt w F Q cs tt i c j → PlAt w' F Q cs tt i c j) ∧ (∀ (bv : Value) g hs, Own w 29 bv g hs → (∀ k, g = some k → gb ≠ some k) → Own w' 29 bv g hs) ∧ w.heap.size ≤ w'.heap.size

theorem take_fan (hf : Fan w0 w F cs base put cv go pv gp ps A C) (P : Nat) (tt : Int) (i c j : Nat) (hp : PlAt w F P cs tt i c j) (hbase : base ≤ c) (hi : i ≤ put) (hsm : put ≤ 1048576) (hm : ∀ k, k < put → (atM A k).length + (atM C k).length ≤ 65535)
    (bv : Value) (gb : Option Nat) (hsb : List Value) (hb : Own w 29 bv gb hsb) (hbl : hsb.length ≤ 1048576) (hgo : ∀ k, gb = some k → go ≠ some k ∧ gp ≠ some k) (hgP : gp ≠ some P) (hPB : w0.heap.size ≤ P) (hgB : ∀ k, gb = some k → w0.heap.size ≤ k) (n : Int) (K : Nat) (hK : (K : Int) = max 0 (min n ((put - i : Nat) : Int))) :
    Calls Try.prog 27 #[.pointer (some ⟨P, 0, none⟩), bv, .int .i64 n] w fun e w' => TakeFan w0 w F P cs base put cv go pv gp ps A C tt i c K gb hsb e w' := by
  have hlen := hf.len
  refine (take27 w w0.heap.size F P cs base put cv go pv gp ps tt i c j bv gb hsb n K hf.fat hp hbase hf.full (by rw [hf.msgs, len_wantM]) hi hsm (fun m h => by rw [hf.msgs] at h; have := mem_wantM A C 65535 put hm m h; omega) hf.caps (by omega) hb hbl hgo hgP hK).mono ?_
  rintro e w' ⟨bv', gb', hs', c', j', rfl, h1, h2, h3, h4, h5, h6, h7, h8⟩
  refine ⟨bv', gb', hs', c', j', rfl, h1, h2, h3, h4, ⟨h5, hf.full, hf.msgs, hf.caps, hf.len, hf.below.trans (h8.below hf.below.size hPB hgB)⟩, h6, h7, fun Q tt i c j hQ hq => hq.kept (h8.block Q hq.ltP hQ (fun e => ?_)), fun bv g hs h hne => h.kept (fun k hk => h8.block k (h.lt k hk) (fun e => ?_) (fun e => hne k hk e.symm)), h8.size⟩
  · rw [← e] at hb
    obtain ⟨cur, hc⟩ := hb.type
    exact ne_of_type hc hq.row (by decide) rfl
  · subst hk
    subst e
    obtain ⟨cur, hc⟩ := h.type
    exact ne_of_type hc hp.row (by decide) rfl

theorem Hdrs.msgs {w : World} {B : Nat} (h : FAt w B F cs base put cv go pv gp ps) {hs : List Value} (hh : Hdrs cs 0 hs) (hl : hs.length = (Qxb6613772a.msgs cs).length) : MsgsAt w hs (Qxb6613772a.msgs cs) := by
  refine ⟨hl, fun i hi => ?_⟩
  obtain ⟨m, h1, h2⟩ := hh i (by rw [hl]; exact hi)
  rw [Nat.zero_add, List.getElem?_eq_getElem hi] at h1
  obtain rfl := Option.some.inj h1
  exact ⟨_, List.getElem?_eq_getElem (by rw [hl]; exact hi), h2.at h⟩
theorem Hdrs.append {hs hs' : List Value} {i : Nat} (h : Hdrs cs i hs) (h' : Hdrs cs (i + hs.length) hs') : Hdrs cs i (hs ++ hs') := fun q hq => by
  by_cases e : q < hs.length
  · rw [List.getElem_append_left e]; exact h q e
  · have hq' : q - hs.length < hs'.length := by rw [List.length_append] at hq; omega
    obtain ⟨m, h1, h2⟩ := h' (q - hs.length) hq'
    rw [List.getElem_append_right (by omega)]
    exact ⟨m, by rw [← h1]; congr 1; omega, h2⟩
end

end Go.Proofs.Qxb6613772a
