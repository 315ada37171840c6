import Derived.Test.Qxb6613772aMid
namespace Go.Proofs.Qxb6613772a
open Go.RowKit
set_option linter.unusedVariables false

/-- A chunk with room for n more bytes and two is the last; all else is as it was. -/
structure Ready (w w1 : World) (B F : Nat) (cs : List Chunk) (base put : Nat) (go : Option Nat) (pv : Value) (gp : Option Nat) (ps chs : List Nat) (n : Nat) (ini : List Chunk) (cl : Chunk) (base1 : Nat) (cv1 : Value) (go1 : Option Nat) : Prop where
  fat : FAt w1 B F (ini ++ [cl]) base1 put cv1 go1 pv gp ps
  room : (pack cl.ms).length + (n + 2) ≤ cl.cap
  cap : cl.cap ≤ 4294967296
  cs1 : ini ++ [cl] = cs ∨ (ini = cs ∧ cl.ms = [] ∧ w.heap.size ≤ cl.g)
  lt : base1 ≤ ini.length
  le : base ≤ base1
  all : ∀ x ∈ chs, base1 ≤ x
  go1 : go1 = go ∨ ∃ g, go1 = some g ∧ w.heap.size ≤ g
  os : w1.os = w.os
  tape : w1.tape = w.tape
  output : w1.output = w.output
  size : w.heap.size ≤ w1.heap.size
  block : ∀ k, k < w.heap.size → k ≠ F → some k ≠ go → w1.heap[k]? = w.heap[k]?

/-- What the test says where it is false: there is a last chunk, and it has room. -/
def Room (cs : List Chunk) (base n : Nat) (b : Bool) : Prop := b = false → ∃ ini cl, cs = ini ++ [cl] ∧ base ≤ ini.length ∧ (pack cl.ms).length + (n + 2) ≤ cl.cap


section
variable {w w1 : World} {B F : Nat} {cs : List Chunk} {base put : Nat} {go : Option Nat} {pv : Value} {gp : Option Nat} {ps chs : List Nat} {n : Nat} {ini : List Chunk} {cl : Chunk} {base1 : Nat} {cv1 : Value} {go1 : Option Nat}
theorem Ready.below (h : Ready w w1 B F cs base put go pv gp ps chs n ini cl base1 cv1 go1) (hbgo : ∀ k, go = some k → B ≤ k) (hB : B ≤ w.heap.size) : Below B w w1 :=
  ⟨h.os, h.tape, h.output, h.size, fun k hk => h.block k (by omega) (fun e => by have := h.fat.bF; omega) (fun e => by have := hbgo k e.symm; omega)⟩
theorem Mid.below {w0 w : World} {g1 k : Nat} {cur0 : Array Value} {G cap : Nat} {v : Value} {xs : List Int} (h : Mid w0 w g1 k cur0 G cap v xs) {B : Nat} (hB : B ≤ w0.heap.size) (h1 : B ≤ g1) (h2 : B ≤ G) : Below B w0 w :=
  ⟨h.os, h.tape, h.output, h.size, fun k hk => h.block k (by omega) (by omega) (by omega)⟩
end

/-- A new chunk. -/
theorem ready_new {w wc w3 w4 : World} {B F : Nat} {cs : List Chunk} {base put : Nat} {go : Option Nat} {pv : Value} {gp : Option Nat} {ps chs : List Nat} {n base3 : Nat} {cv3 : Value} {go3 : Option Nat} {Z : Array Value} {o2 : Obj} {C g1 off1 cap1 : Nat}
    (hb1 : Below w.heap.size w wc) (hF3 : FAt w3 B F cs base3 put cv3 go3 pv gp ps) (hbb : base ≤ base3) (hall : ∀ x ∈ chs, base3 ≤ x) (hgo3 : go3 = go ∨ go3 = none) (ht3 : Touch wc w3 F go) (hlo : ∀ k, go = some k → k < w.heap.size)
    (hown4 : Own w4 29 (.slice (some ⟨g1, off1, none⟩) (((cs.drop base3).map Chunk.v).length + 1) cap1) (some g1) ((cs.drop base3).map Chunk.v ++ [.slice (some ⟨w3.heap.size, 0, none⟩) 0 C]))
    (hgr4 : (((w3.alloc (.cells Z 5)).alloc o2).drew).grownBy w4 go3) (hat4 : some g1 = go3 ∨ g1 = (((w3.alloc (.cells Z 5)).alloc o2).drew).heap.size) (hZ : Z.size = C) (hn : n + 2 ≤ C) (hC : C ≤ 4294967296) :
    Ready w (w4.setCell ⟨F, 1, none⟩ (.slice (some ⟨g1, off1, none⟩) (cs.length - base3 + 1) cap1)) B F cs base put go pv gp ps chs n cs ⟨w3.heap.size, C, []⟩ base3 (.slice (some ⟨g1, off1, none⟩) (cs.length - base3 + 1) cap1) (some g1) := by
  generalize hW : ((w3.alloc (.cells Z 5)).alloc o2).drew = W at hgr4 hat4
  have s1 : W.heap.size = w3.heap.size + 2 := by rw [← hW, heap_drew]; simp
  have s2 : ∀ k, k < w3.heap.size → W.heap[k]? = w3.heap[k]? := fun k hk => by
    rw [← hW, heap_drew, Below.heap_alloc _ _ _ (by simp; omega), Below.heap_alloc _ _ _ hk]
  have s3 : W.heap[w3.heap.size]? = some (.cells Z 5 (0, 0)) := by
    rw [← hW, heap_drew, Below.heap_alloc _ _ _ (by simp)]
    exact heap_alloc_new w3 _
  have s4 : W.os = w3.os ∧ W.tape = w3.tape ∧ W.output = w3.output := by rw [← hW]; exact ⟨rfl, rfl, rfl⟩
  clear hW
  have sz4 := hgr4.size
  have lt3 : ∀ k, go3 = some k → k < w3.heap.size := hF3.own.lt
  have gt : ∀ k, go3 = some k → ∃ cur, w3.heap[k]? = some (.cells cur 29 (0, 0)) := fun k hk => by have h2 := hF3.own; rw [hk] at h2; exact h2.type
  have hneF : some F ≠ go3 := fun e => by
    obtain ⟨cur, hc⟩ := gt F e.symm
    exact ne_of_type hc hF3.row (by decide) rfl
  have ltF := hF3.ltF
  have hg1F : g1 ≠ F := fun e => by
    rcases hat4 with h | h
    · exact hneF (by rw [← e]; exact h)
    · omega
  have hF4 := (hgr4.block F (by omega) hneF).trans ((s2 F ltF).trans hF3.row)
  have a1 := heap_setCell_same w4 F 1 _ _ (.slice (some ⟨g1, off1, none⟩) (cs.length - base3 + 1) cap1) hF4
  have oth : ∀ k, k ≠ F → (w4.setCell ⟨F, 1, none⟩ (.slice (some ⟨g1, off1, none⟩) (cs.length - base3 + 1) cap1)).heap[k]? = w4.heap[k]? := fun k hk => heap_setCell_other _ _ _ _ hk
  have hsz : (w4.setCell ⟨F, 1, none⟩ (.slice (some ⟨g1, off1, none⟩) (cs.length - base3 + 1) cap1)).heap.size = w4.heap.size := by simp [World.setCell]
  have same : ∀ k, k < w3.heap.size → k ≠ F → some k ≠ go3 → (w4.setCell ⟨F, 1, none⟩ (.slice (some ⟨g1, off1, none⟩) (cs.length - base3 + 1) cap1)).heap[k]? = w3.heap[k]? := fun k hk h1 h2 => by
    rw [oth k h1, hgr4.block k (by omega) h2, s2 k hk]
  have hl : ((cs.drop base3).map Chunk.v).length = cs.length - base3 := by simp
  have hble := hF3.base_le
  rw [hl] at hown4
  have hbF := hF3.bF
  have t3 := ht3.size
  have t1 := hb1.size
  have hfat : FAt (w4.setCell ⟨F, 1, none⟩ (.slice (some ⟨g1, off1, none⟩) (cs.length - base3 + 1) cap1)) B F (cs ++ [⟨w3.heap.size, C, []⟩]) base3 put (.slice (some ⟨g1, off1, none⟩) (cs.length - base3 + 1) cap1) (some g1) pv gp ps := by
    refine ⟨a1.trans (by simp), ?_, ?_, ?_, by simp; omega, ?_, hF3.bF, ?_, ?_⟩
    · rw [List.drop_append_of_le_length hble, List.map_append]
      exact hown4.kept (fun k hk => oth k (fun e => hg1F ((Option.some.inj hk).trans e)))
    · intro c hc
      rcases List.mem_append.1 hc with hc | hc
      · obtain ⟨cc, hcc, _⟩ := (hF3.chunks c hc).1
        exact ⟨(hF3.chunks c hc).1.kept (same _ (hF3.chunks c hc).1.lt (ne_of_type hcc hF3.row (by decide)) (fun e => by obtain ⟨c2, h2⟩ := gt _ e.symm; exact ne_of_type hcc h2 (by decide) rfl)), (hF3.chunks c hc).2⟩
      · obtain rfl := List.mem_singleton.1 hc
        refine ⟨⟨Z, ?_, hZ, Nat.zero_le _, fun i h => by simp [pack] at h⟩, by simp; omega⟩
        rw [oth _ (by simp; omega)]
        exact (hgr4.block w3.heap.size (by omega) (fun e => by have := lt3 _ e.symm; omega)).trans s3
    · rw [List.map_append, List.nodup_append]
      refine ⟨hF3.apart, by simp, ?_⟩
      intro x hx y hy e
      obtain ⟨c, hc, rfl⟩ := List.mem_map.1 hx
      have := (hF3.chunks c hc).1.lt
      simp at hy
      omega
    · refine hF3.places.kept (fun k hk => ?_)
      obtain ⟨b1, b2, b3, b4, b5⟩ := hF3.bgp k hk
      exact same k b2 b3 b4
    · intro k hk
      obtain rfl := Option.some.inj hk
      rcases hat4 with h | h
      · exact hF3.bgo _ h.symm
      · omega
    · intro k hk
      obtain ⟨b1, b2, b3, b4, b5⟩ := hF3.bgp k hk
      refine ⟨b1, by omega, b3, fun e => ?_, ?_⟩
      · rcases hat4 with h | h
        · exact b4 (e.trans h)
        · have := Option.some.inj e; omega
      · rw [List.map_append]
        intro hx
        rcases List.mem_append.1 hx with hx | hx
        · exact b5 hx
        · simp at hx; omega
  refine ⟨hfat, by simp [pack]; exact hn, hC, .inr ⟨rfl, rfl, by simp; omega⟩, hble, hbb, hall, ?_, ?_, ?_, ?_, by omega, fun k hk h1 h2 => ?_⟩
  · rcases hat4 with h | h
    · rcases hgo3 with e | e
      · exact .inl (h.trans e)
      · rw [e] at h; cases h
    · exact .inr ⟨g1, rfl, by omega⟩
  · exact hgr4.os.trans (s4.1.trans (ht3.os.trans hb1.os))
  · exact hgr4.tape.trans (s4.2.1.trans (ht3.tape.trans hb1.tape))
  · exact hgr4.output.trans (s4.2.2.trans (ht3.output.trans hb1.output))
  · rw [same k (by omega) h1 (fun e => ?_), ht3.block k (by omega) h1 h2, hb1.block k hk]
    rcases hgo3 with e1 | e1
    · exact h2 (e.trans e1)
    · rw [e1] at e; cases e

structure PFrame (w w' : World) (F : Nat) (go : Option Nat) (gs : List Nat) : Prop where
  os : w'.os = w.os
  tape : w'.tape = w.tape
  output : w'.output = w.output
  size : w.heap.size ≤ w'.heap.size
  block : ∀ k, k < w.heap.size → k ≠ F → some k ≠ go → k ∉ gs → w'.heap[k]? = w.heap[k]?

/-- What Put leaves. -/
def PutDone (w : World) (B F : Nat) (cs : List Chunk) (base put : Nat) (go : Option Nat) (pv : Value) (gp : Option Nat) (ps chs : List Nat) (m : List Int) (e : Ending) (w' : World) : Prop :=
  ∃ v cs' base' cv' go', e = .returned v ∧ MsgAt w' v m ∧ FAt w' B F cs' base' (put + 1) cv' go' pv gp ps ∧ Grows w cs cs' m ∧ (∀ ch ∈ cs', ch.cap ≤ 4294967296) ∧ base ≤ base' ∧ (∀ x ∈ chs, base' ≤ x) ∧ (go' = go ∨ ∃ g, go' = some g ∧ w.heap.size ≤ g) ∧ PFrame w w' F go (cs.map Chunk.g)

theorem put_done {w w1 w4 w' : World} {B F : Nat} {cs : List Chunk} {base put : Nat} {go : Option Nat} {pv : Value} {gp : Option Nat} {ps chs : List Nat} {n : Nat} {ini : List Chunk} {cl : Chunk} {base1 : Nat} {cv1 : Value} {go1 : Option Nat} {g1 : Nat} {m : List Int} {v : Value}
    (hR : Ready w w1 B F cs base put go pv gp ps chs n ini cl base1 cv1 go1) (hgo1 : go1 = some g1) (hcap : ∀ ch ∈ cs, ch.cap ≤ 4294967296)
    (hF4 : FAt w4 B F (ini ++ [⟨cl.g, cl.cap, cl.ms ++ [m]⟩]) base1 (put + 1) cv1 go1 pv gp ps) (fr : Frame3 w1 w4 F g1 cl.g) (hb : Below w4.heap.size w4 w') (hv : MsgAt w4 v m) :
    PutDone w B F cs base put go pv gp ps chs m (.returned v) w' := by
  have s1 := hR.size
  have s2 := fr.size
  have s3 := hb.size
  refine ⟨v, _, base1, cv1, go1, rfl, hv.later hb, hF4.later hb, ⟨ini, cl, rfl, hR.cs1⟩, ?_, hR.le, hR.all, hR.go1, ⟨hb.os.trans (fr.os.trans hR.os), hb.tape.trans (fr.tape.trans hR.tape), hb.output.trans (fr.output.trans hR.output), by omega, fun k hk h1 h2 h3 => ?_⟩⟩
  · intro ch hc
    rcases List.mem_append.1 hc with hc | hc
    · rcases hR.cs1 with e | ⟨e, _⟩
      · exact hcap ch (by rw [← e]; exact List.mem_append_left _ hc)
      · exact hcap ch (by rw [← e]; exact hc)
    · obtain rfl := List.mem_singleton.1 hc
      exact hR.cap
  · rw [hb.block k (by omega), fr.block k (by omega) h1 (fun e => ?_) (fun e => ?_), hR.block k hk h1 h2]
    · rcases hR.go1 with e1 | ⟨g, e1, e2⟩
      · exact h2 (by rw [e, ← hgo1]; exact e1)
      · rw [hgo1] at e1
        have := Option.some.inj e1
        omega
    · rcases hR.cs1 with e1 | ⟨_, _, e2⟩
      · exact h3 (by rw [e, ← e1]; simp)
      · omega
end Go.Proofs.Qxb6613772a
