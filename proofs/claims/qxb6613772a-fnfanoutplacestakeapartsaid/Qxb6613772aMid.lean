import Derived.Test.Qxb6613772aStep
namespace Go.Proofs.Qxb6613772a
open Go.RowKit
set_option linter.unusedVariables false

/-- Block g1 is the row cur0 of headers, but for the number k, which is v. -/
def HdrRow (w : World) (g1 k : Nat) (cur0 : Array Value) (v : Value) : Prop :=
  ∃ cur, w.heap[g1]? = some (.cells cur 29 (0, 0)) ∧ cur.size = cur0.size ∧ (∀ i, i ≠ k → cur[i]? = cur0[i]?) ∧ cur[k]? = some v

/-- Between: the last header is v, the last chunk holds xs; all else is as in w0. -/
structure Mid (w0 w : World) (g1 k : Nat) (cur0 : Array Value) (G cap : Nat) (v : Value) (xs : List Int) : Prop where
  hdr : HdrRow w g1 k cur0 v
  row : Row w G cap xs
  os : w.os = w0.os
  tape : w.tape = w0.tape
  output : w.output = w0.output
  size : w0.heap.size ≤ w.heap.size
  block : ∀ b, b < w0.heap.size → b ≠ g1 → b ≠ G → w.heap[b]? = w0.heap[b]?

section
variable {w0 w w' : World} {g1 k : Nat} {cur0 : Array Value} {G cap : Nat} {v : Value} {xs : List Int}
theorem Mid.ne (h : Mid w0 w g1 k cur0 G cap v xs) : g1 ≠ G := by
  obtain ⟨cur, h1, _⟩ := h.hdr
  obtain ⟨c2, h2, _⟩ := h.row
  exact ne_of_type h1 h2 (by decide)
theorem Mid.cell (h : Mid w0 w g1 k cur0 G cap v xs) : w.cell? ⟨g1, k, none⟩ = some v := by
  obtain ⟨cur, h1, _, _, h2⟩ := h.hdr
  exact (cell_of_row _ _ _ _ _ _ h1).trans h2
theorem Mid.frozen (h : Mid w0 w g1 k cur0 G cap v xs) : w.frozen? ⟨g1, k, none⟩ = false := by
  obtain ⟨cur, h1, _, _, h2⟩ := h.hdr
  exact frozen_of_row _ _ _ _ _ h1
theorem Mid.app (h : Mid w0 w g1 k cur0 G cap v xs) {xs' : List Int} (hg : w.grownBy w' (some G)) (hr : Row w' G cap xs') : Mid w0 w' g1 k cur0 G cap v xs' := by
  have hne := h.ne
  obtain ⟨cur, h1, h2, h3, h4⟩ := h.hdr
  have hlt := (Array.getElem?_eq_some_iff.1 h1).1
  have hs := hg.size
  have hs2 := h.size
  exact ⟨⟨cur, (hg.block g1 hlt (fun e => hne (Option.some.inj e))).trans h1, h2, h3, h4⟩, hr, hg.os.trans h.os, hg.tape.trans h.tape, hg.output.trans h.output, by omega, fun b hb n1 n2 => (hg.block b (by omega) (fun e => n2 (Option.some.inj e))).trans (h.block b hb n1 n2)⟩
theorem Mid.set (h : Mid w0 w g1 k cur0 G cap v xs) (v' : Value) : Mid w0 (w.setCell ⟨g1, k, none⟩ v') g1 k cur0 G cap v' xs := by
  have hne := h.ne
  obtain ⟨cur, h1, h2, h3, h4⟩ := h.hdr
  have hk := (Array.getElem?_eq_some_iff.1 h4).1
  have oth : ∀ b, b ≠ g1 → (w.setCell ⟨g1, k, none⟩ v').heap[b]? = w.heap[b]? := fun b hb => heap_setCell_other _ _ _ _ hb
  refine ⟨⟨_, heap_setCell_same w g1 k _ _ _ h1, by simp [h2], fun i hi => ?_, ?_⟩, h.row.kept (oth G hne.symm), h.os, h.tape, h.output, by simp [World.setCell]; exact h.size, fun b hb n1 n2 => (oth b n1).trans (h.block b hb n1 n2)⟩
  · simp [Array.getElem?_setIfInBounds_ne (Ne.symm hi)]
    exact h3 i hi
  · simp [hk]
theorem Mid.kept (h : Mid w0 w g1 k cur0 G cap v xs) (hb : Below w.heap.size w w') : Mid w0 w' g1 k cur0 G cap v xs := by
  obtain ⟨cur, h1, h2, h3, h4⟩ := h.hdr
  have hs2 := h.size
  have hs3 := hb.size
  exact ⟨⟨cur, (hb.block g1 (Array.getElem?_eq_some_iff.1 h1).1).trans h1, h2, h3, h4⟩, h.row.kept (hb.block _ h.row.lt), hb.os.trans h.os, hb.tape.trans h.tape, hb.output.trans h.output, by omega, fun b hbb n1 n2 => (hb.block b (by omega)).trans (h.block b hbb n1 n2)⟩
end

section
variable {w : World} {B F : Nat} {ini : List Chunk} {cl : Chunk} {base put : Nat} {cv : Value} {go : Option Nat} {pv : Value} {gp : Option Nat} {ps : List Nat}
/-- The last header. -/
theorem FAt.mid (h : FAt w B F (ini ++ [cl]) base put cv go pv gp ps) (hb : base ≤ ini.length) :
    ∃ g1 off cap cur, go = some g1 ∧ cv = .slice (some ⟨g1, off, none⟩) (ini.length - base + 1) cap ∧ w.heap[g1]? = some (.cells cur 29 (0, 0)) ∧ off + cap ≤ cur.size ∧ ini.length - base + 1 ≤ cap ∧ (∀ i, i < ini.length - base → cur[off + i]? = ((ini.drop base).map Chunk.v)[i]?) ∧ Mid w w g1 (off + (ini.length - base)) cur cl.g cl.cap cl.v (pack cl.ms) := by
  have e : ((ini ++ [cl]).drop base).map Chunk.v = (ini.drop base).map Chunk.v ++ [cl.v] := by
    rw [List.drop_append_of_le_length hb, List.map_append]; rfl
  have ho := h.own
  rw [e] at ho
  have hl : ((ini.drop base).map Chunk.v ++ [cl.v]).length = ini.length - base + 1 := by simp
  rcases ho with ⟨_, h2, _⟩ | ⟨g, off, cap, cur, h1, h2, h3, h4, h5, h6⟩
  · simp at h2
  · rw [hl] at h2 h4 h6
    refine ⟨g, off, cap, cur, h1, h2, h3, h5, h4, fun i hi => ?_, ⟨⟨cur, h3, rfl, fun _ _ => rfl, ?_⟩, (h.chunks cl (by simp)).1, rfl, rfl, rfl, Nat.le_refl _, fun _ _ _ _ => rfl⟩⟩
    · rw [h6 i (by omega), List.getElem?_append_left (by simp; omega)]
    · rw [h6 _ (by omega), List.getElem?_append_right (by simp)]
      simp

structure Frame3 (w w' : World) (F g1 G : Nat) : Prop where
  os : w'.os = w.os
  tape : w'.tape = w.tape
  output : w'.output = w.output
  size : w.heap.size ≤ w'.heap.size
  block : ∀ b, b < w.heap.size → b ≠ F → b ≠ g1 → b ≠ G → w'.heap[b]? = w.heap[b]?

/-- The end of Put's stores. -/
theorem put_end {w' : World} {g1 off cap : Nat} {cur : Array Value} {m : List Int} (h : FAt w B F (ini ++ [cl]) base put cv go pv gp ps) (hb : base ≤ ini.length)
    (h1 : go = some g1) (h2 : cv = .slice (some ⟨g1, off, none⟩) (ini.length - base + 1) cap) (h3 : w.heap[g1]? = some (.cells cur 29 (0, 0))) (h5 : off + cap ≤ cur.size) (h4 : ini.length - base + 1 ≤ cap) (h6 : ∀ i, i < ini.length - base → cur[off + i]? = ((ini.drop base).map Chunk.v)[i]?)
    (hm : Mid w w' g1 (off + (ini.length - base)) cur cl.g cl.cap (Chunk.v ⟨cl.g, cl.cap, cl.ms ++ [m]⟩) (pack (cl.ms ++ [m]))) :
    FAt (w'.setCell ⟨F, 3, none⟩ (.int .u64 ((put + 1 : Nat) : Int))) B F (ini ++ [⟨cl.g, cl.cap, cl.ms ++ [m]⟩]) base (put + 1) cv go pv gp ps ∧ Frame3 w (w'.setCell ⟨F, 3, none⟩ (.int .u64 ((put + 1 : Nat) : Int))) F g1 cl.g ∧ (w'.setCell ⟨F, 3, none⟩ (.int .u64 ((put + 1 : Nat) : Int))).cell? ⟨g1, off + (ini.length - base), none⟩ = some (Chunk.v ⟨cl.g, cl.cap, cl.ms ++ [m]⟩) := by
  obtain ⟨ccl, hccl, _⟩ := (h.chunks cl (by simp)).1
  have n1 : F ≠ g1 := (ne_of_type h3 h.row (by decide)).symm
  have n2 : F ≠ cl.g := (ne_of_type hccl h.row (by decide)).symm
  have n3 : g1 ≠ cl.g := hm.ne
  have hF := (hm.block F h.ltF n1 n2).trans h.row
  have a1 := heap_setCell_same w' F 3 _ _ (.int .u64 ((put + 1 : Nat) : Int)) hF
  have hsz : (w'.setCell ⟨F, 3, none⟩ (.int .u64 ((put + 1 : Nat) : Int))).heap.size = w'.heap.size := by simp [World.setCell]
  have oth : ∀ k, k ≠ F → (w'.setCell ⟨F, 3, none⟩ (.int .u64 ((put + 1 : Nat) : Int))).heap[k]? = w'.heap[k]? := fun k hk => heap_setCell_other _ _ _ _ hk
  have hcl : cl.g ∉ ini.map Chunk.g := by
    have := h.apart
    rw [List.map_append, List.nodup_append] at this
    exact fun hx => this.2.2 _ hx _ (by simp) rfl
  have fr : Frame3 w (w'.setCell ⟨F, 3, none⟩ (.int .u64 ((put + 1 : Nat) : Int))) F g1 cl.g := ⟨hm.os, hm.tape, hm.output, by rw [hsz]; exact hm.size, fun b hb c1 c2 c3 => (oth b c1).trans (hm.block b hb c2 c3)⟩
  refine ⟨⟨a1.trans (by simp), ?_, ?_, ?_, by have := h.base_le; simp at this ⊢; omega, ?_, h.bF, h.bgo, ?_⟩, fr, (cell_kept (oth g1 n1.symm) hm.cell)⟩
  · obtain ⟨c3, k1, k2, k3, k4⟩ := hm.hdr
    rw [h1, h2]
    have e : ((ini ++ [(⟨cl.g, cl.cap, cl.ms ++ [m]⟩ : Chunk)]).drop base).map Chunk.v = (ini.drop base).map Chunk.v ++ [Chunk.v ⟨cl.g, cl.cap, cl.ms ++ [m]⟩] := by
      rw [List.drop_append_of_le_length hb, List.map_append]; rfl
    have hl : ((ini.drop base).map Chunk.v ++ [Chunk.v ⟨cl.g, cl.cap, cl.ms ++ [m]⟩]).length = ini.length - base + 1 := by simp
    rw [e]
    refine .inr ⟨g1, off, cap, c3, rfl, by rw [hl], (oth g1 n1.symm).trans k1, by rw [hl]; exact h4, by omega, fun i hi => ?_⟩
    rw [hl] at hi
    by_cases e1 : i < ini.length - base
    · rw [k3 _ (by omega), h6 i e1, List.getElem?_append_left (by simp; omega)]
    · obtain rfl : i = ini.length - base := by omega
      rw [k4, List.getElem?_append_right (by simp)]
      simp
  · intro c hc
    rcases List.mem_append.1 hc with hc | hc
    · have hr := h.chunks c (List.mem_append_left _ hc)
      obtain ⟨cc, hcc, _⟩ := hr.1
      refine ⟨hr.1.kept ?_, hr.2⟩
      rw [oth _ (ne_of_type hcc h.row (by decide)), hm.block _ hr.1.lt (ne_of_type hcc h3 (by decide)) (fun e => hcl (by rw [← e]; exact List.mem_map.2 ⟨c, hc, rfl⟩))]
    · obtain rfl := List.mem_singleton.1 hc
      exact ⟨hm.row.kept (oth _ n2.symm), (h.chunks cl (by simp)).2⟩
  · have := h.apart
    simpa using this
  · refine h.places.kept (fun k hk => ?_)
    obtain ⟨b1, b2, b3, b4, b5⟩ := h.bgp k hk
    rw [oth k b3, hm.block k b2 (fun e => b4 (by rw [e, h1])) (fun e => b5 (by rw [e]; simp))]
  · intro k hk
    obtain ⟨b1, b2, b3, b4, b5⟩ := h.bgp k hk
    have := hm.size
    exact ⟨b1, by omega, b3, b4, by simpa using b5⟩
end

/-- The chunks behind one more message m. -/
def Grows (w : World) (cs cs' : List Chunk) (m : List Int) : Prop :=
  ∃ ini cl, cs' = ini ++ [⟨cl.g, cl.cap, cl.ms ++ [m]⟩] ∧ (ini ++ [cl] = cs ∨ (ini = cs ∧ cl.ms = [] ∧ w.heap.size ≤ cl.g))
theorem Grows.msgs {w : World} {cs cs' : List Chunk} {m : List Int} (h : Grows w cs cs' m) : msgs cs' = msgs cs ++ [m] := by
  obtain ⟨ini, cl, rfl, h | ⟨rfl, h, _⟩⟩ := h
  · subst h; simp [Qxb6613772a.msgs]
  · simp [Qxb6613772a.msgs, h]
theorem Grows.full {w : World} {cs cs' : List Chunk} {m : List Int} (h : Grows w cs cs' m) (hf : ∀ ch ∈ cs, ch.ms ≠ []) : ∀ ch ∈ cs', ch.ms ≠ [] := by
  obtain ⟨ini, cl, rfl, h⟩ := h
  intro ch hc
  rcases List.mem_append.1 hc with hc | hc
  · rcases h with h | ⟨h, _⟩
    · exact hf ch (by rw [← h]; exact List.mem_append_left _ hc)
    · exact hf ch (by rw [← h]; exact hc)
  · obtain rfl := List.mem_singleton.1 hc
    simp
theorem Grows.len {w : World} {cs cs' : List Chunk} {m : List Int} (h : Grows w cs cs' m) : cs.length ≤ cs'.length ∧ cs'.length ≤ cs.length + 1 := by
  obtain ⟨ini, cl, rfl, h | ⟨h, _⟩⟩ := h
  · subst h; simp
  · subst h; simp
/-- A chunk that was there is still, and may be longer. -/
theorem Grows.at {w : World} {cs cs' : List Chunk} {m : List Int} (h : Grows w cs cs' m) (c : Nat) (hc : c < cs.length) (hc' : c < cs'.length) : cs'[c].g = cs[c].g ∧ ∃ r, cs'[c].ms = cs[c].ms ++ r := by
  obtain ⟨ini, cl, rfl, h | ⟨h, _⟩⟩ := h
  · subst h
    by_cases e : c < ini.length
    · rw [List.getElem_append_left e, List.getElem_append_left e]; exact ⟨rfl, [], by simp⟩
    · obtain rfl : c = ini.length := by simp at hc; omega
      simp
  · subst h
    rw [List.getElem_append_left hc]
    exact ⟨rfl, [], by simp⟩
theorem Grows.take {w : World} {cs cs' : List Chunk} {m : List Int} (h : Grows w cs cs' m) (c : Nat) (hc : c < cs.length) : Qxb6613772a.msgs (cs'.take c) = Qxb6613772a.msgs (cs.take c) := by
  obtain ⟨ini, cl, rfl, h | ⟨h, _⟩⟩ := h
  · subst h
    have : c ≤ ini.length := by simp at hc; omega
    rw [List.take_append_of_le_length this, List.take_append_of_le_length this]
  · subst h
    rw [List.take_append_of_le_length (by omega)]
theorem Grows.hdr {w : World} {cs cs' : List Chunk} {m : List Int} (h : Grows w cs cs' m) {v : Value} {x : List Int} (hv : Hdr cs v x) : Hdr cs' v x := by
  obtain ⟨ch, hc, A, C, k, h1, h2, h3⟩ := hv
  obtain ⟨c, hlt, rfl⟩ := List.mem_iff_getElem.1 hc
  have hlt' : c < cs'.length := Nat.lt_of_lt_of_le hlt h.len.1
  obtain ⟨e1, r, e2⟩ := h.at c hlt hlt'
  exact ⟨cs'[c], List.getElem_mem hlt', A, C ++ pack r, k, h1, by rw [e2, pack_append, h2]; simp, by rw [e1]; exact h3⟩
theorem Grows.hdrs {w : World} {cs cs' : List Chunk} {m : List Int} (h : Grows w cs cs' m) {i : Nat} {hs : List Value} (hv : Hdrs cs i hs) : Hdrs cs' i hs := fun q hq => by
  obtain ⟨x, h1, h2⟩ := hv q hq
  exact ⟨x, by rw [h.msgs, List.getElem?_append_left (List.getElem?_eq_some_iff.1 h1).1]; exact h1, h.hdr h2⟩
theorem Grows.place {w w1 w2 : World} {cs cs' : List Chunk} {m : List Int} (h : Grows w cs cs' m) {F P : Nat} {tt : Int} {i c j : Nat} (hp : PlAt w1 F P cs tt i c j) (hb : w2.heap[P]? = w1.heap[P]?) : PlAt w2 F P cs' tt i c j := by
  obtain ⟨h1, h2, h3, h4⟩ := hp
  rcases h4 with h4 | ⟨rfl, rfl⟩
  · have hc' : c < cs'.length := Nat.lt_of_lt_of_le h4 h.len.1
    obtain ⟨e1, r, e2⟩ := h.at c h4 hc'
    have e3 : msOf cs' c = msOf cs c ++ r := by rw [msOf_lt _ _ hc', msOf_lt _ _ h4, e2]
    exact ⟨by rw [hb, h1, e3, List.take_append_of_le_length h3], by rw [h.take c h4]; exact h2, by rw [e3, List.length_append]; omega, .inl hc'⟩
  · have e0 : msOf ([] : List Chunk) 0 = [] := rfl
    rw [e0] at h3
    obtain rfl : j = 0 := by simpa using h3
    obtain ⟨ini, cl, rfl, h | ⟨h, _⟩⟩ := h
    · simp at h
    · exact ⟨by rw [hb, h1]; simp, h2, by omega, .inl (by simp)⟩

end Go.Proofs.Qxb6613772a
