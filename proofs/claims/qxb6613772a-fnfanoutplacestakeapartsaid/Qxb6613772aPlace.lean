import Derived.Test.Qxb6613772aTakeF
namespace Go.Proofs.Qxb6613772a
open Go.RowKit
set_option linter.unusedVariables false

/-- The Fanout as it is made: nothing put. -/
structure FNew (w : World) (B F : Nat) (pv : Value) (gp : Option Nat) (ps : List Nat) : Prop where
  row : w.heap[F]? = some (.cells #[.nilFunc, .slice none 0 0, .int .u64 0, .int .u64 0, pv] 62 (0, 0))
  own : Own w 40 pv gp (ps.map ptrV)
  bF : B ≤ F
  bgp : ∀ k, gp = some k → B ≤ k

theorem FNew.at {w : World} {B F : Nat} {pv : Value} {gp : Option Nat} {ps : List Nat} (h : FNew w B F pv gp ps) : FAt w B F [] 0 0 (.slice none 0 0) none pv gp ps where
  row := h.row
  own := .inl ⟨rfl, rfl, rfl⟩
  chunks := fun c hc => by cases hc
  apart := List.nodup_nil
  base_le := Nat.le_refl _
  places := h.own.lies
  bF := h.bF
  bgo := fun k hk => by cases hk
  bgp := fun k hk => by
    subst hk
    obtain ⟨cur, hc⟩ := h.own.type
    exact ⟨h.bgp k rfl, h.own.lt k rfl, fun e => ne_of_type hc h.row (by decide) e, (fun e => by cases e), by simp⟩

theorem newFanout (w : World) : Calls Try.prog 22 #[] w fun e w' => e = .returned (.pointer (some ⟨w.heap.size, 0, none⟩)) ∧ FNew w' w.heap.size w.heap.size (.slice none 0 0) none [] ∧ Below w.heap.size w w' := by
  go_enter Try.func22, Try.ntmps22
  go_wp2_with (go_in)
  go_ret
  exact ⟨rfl, ⟨heap_alloc_new w _, .inl ⟨rfl, rfl, rfl⟩, Nat.le_refl _, (fun k hk => by cases hk)⟩, (Below.refl _ _).alloc (Nat.le_refl _) _⟩

theorem info40 : (Try.prog.info? 40).map (fun i => (i.zero, i.size, i.bytes)) = some (some (.pointer none), 1, 8) := by kernel_rfl

/-- What ZZplace leaves. -/
def Placed (w : World) (B F : Nat) (gp : Option Nat) (ps : List Nat) (tt : Int) (e : Ending) (w' : World) : Prop :=
  ∃ pv' g1, e = .returned (.pointer (some ⟨w.heap.size, 0, none⟩)) ∧ FNew w' B F pv' (some g1) (ps ++ [w.heap.size]) ∧ w'.heap[w.heap.size]? = some (.cells (plCells F tt 0 0 0) 70 (0, 0)) ∧ Touch w w' F gp ∧ (some g1 = gp ∨ w.heap.size < g1)

theorem place_fin {w w2 : World} {o : Obj} {B F : Nat} {pv v' : Value} {gp : Option Nat} {ps : List Nat} {g1 : Nat} {tt : Int} (h : FNew w B F pv gp ps) (hB : B ≤ w.heap.size)
    (hown : Own w2 40 v' (some g1) (ps.map ptrV ++ [ptrV w.heap.size])) (hgr : ((w.alloc (.cells (plCells F tt 0 0 0) 70)).alloc o).grownBy w2 gp) (hat : some g1 = gp ∨ g1 = w.heap.size + 2) :
    FNew (w2.setCell ⟨F, 4, none⟩ v') B F v' (some g1) (ps ++ [w.heap.size]) ∧ (w2.setCell ⟨F, 4, none⟩ v').heap[w.heap.size]? = some (.cells (plCells F tt 0 0 0) 70 (0, 0)) ∧ Touch w (w2.setCell ⟨F, 4, none⟩ v') F gp ∧ (some g1 = gp ∨ w.heap.size < g1) := by
  have ltF : F < w.heap.size := (Array.getElem?_eq_some_iff.1 h.row).1
  have hsz := hgr.size
  simp at hsz
  have hneF : some F ≠ gp := fun e => by
    have h2 := h.own
    rw [← e] at h2
    obtain ⟨cur, hc⟩ := h2.type
    exact ne_of_type hc h.row (by decide) rfl
  have hneP : some w.heap.size ≠ gp := fun e => by
    have := h.own.lt w.heap.size e.symm
    omega
  have same : ∀ k, k < w.heap.size → some k ≠ gp → w2.heap[k]? = w.heap[k]? := fun k hk hne => by
    rw [hgr.block k (by simp; omega) hne, Below.heap_alloc _ _ _ (by simp; omega), Below.heap_alloc _ _ _ hk]
  have hF2 := (same F ltF hneF).trans h.row
  have hP2 : w2.heap[w.heap.size]? = some (.cells (plCells F tt 0 0 0) 70 (0, 0)) := by
    rw [hgr.block _ (by simp; omega) hneP, Below.heap_alloc _ _ _ (by simp)]
    exact heap_alloc_new w _
  have hg1F : g1 ≠ F := fun e => by
    obtain ⟨cur, hc⟩ := hown.type
    rw [e] at hc
    exact ne_of_type hc hF2 (by decide) rfl
  refine ⟨⟨?_, ?_, h.bF, fun k hk => ?_⟩, ?_, ⟨hgr.os, hgr.tape, hgr.output, by simp [World.setCell]; omega, fun k hk h1 h2 => ?_⟩, hat.imp id (fun e => by omega)⟩
  · rw [heap_setCell_same w2 F 4 _ _ _ hF2]; rfl
  · rw [List.map_append]
    exact hown.kept (fun k hk => heap_setCell_other w2 _ _ _ (fun e => hg1F ((Option.some.inj hk).trans e)))
  · obtain rfl := Option.some.inj hk
    rcases hat with e | e
    · exact h.bgp _ e.symm
    · omega
  · rw [heap_setCell_other w2 _ _ _ (by simp only []; omega)]; exact hP2
  · rw [heap_setCell_other w2 _ _ _ h1]; exact same k hk (fun e => h2 e)

theorem ta40 (p : Option Addr) (w : World) : (Instr.typeAssert (.iface 40 (.pointer p)) 56 40 true).run Try.prog w = .ok (.tuple #[.pointer p, .bool true]) w := by kernel_rfl

set_option maxHeartbeats 1000000 in
theorem place23 (w : World) (B F : Nat) (pv : Value) (gp : Option Nat) (ps : List Nat) (tt : Int) (h : FNew w B F pv gp ps) (hB : B ≤ w.heap.size) (hps : ps.length ≤ 100) :
    Calls Try.prog 23 #[.pointer (some ⟨F, 0, none⟩), .int .i64 tt] w fun e w' => Placed w B F gp ps tt e w' := by
  obtain ⟨ti, hti, hz0, hz1, hz2⟩ := info_parts info40
  have HH := hid h
  have c4 : w.cell? ⟨F, 4, none⟩ = some pv := cell_of_row _ _ _ _ _ _ h.row
  have ltF : F < w.heap.size := (Array.getElem?_eq_some_iff.1 h.row).1
  have LL : (ps.map ptrV).length ≤ 100 := by rw [List.length_map]; exact hps
  have hownA : ∀ o1 o2, Own ((w.alloc o1).alloc o2) 40 pv gp (ps.map ptrV) := fun o1 o2 => h.own.kept (fun k hk => by have := h.own.lt k hk; rw [Below.heap_alloc _ _ _ (by simp; omega), Below.heap_alloc _ _ _ this])
  have HW := hid hownA
  have hneF : some F ≠ gp := fun e => by
    have h2 := h.own
    rw [← e] at h2
    obtain ⟨cur, hc⟩ := h2.type
    exact ne_of_type hc h.row (by decide) rfl
  have HN := hid hneF
  have HR := hid h.row
  clear h hownA hneF
  have hcell1 : ∀ o1 : Obj, ((w.alloc o1).alloc (.cells #[.pointer (some ⟨w.heap.size, 0, none⟩)] 40)).heap[w.heap.size + 1]? = some (.cells #[.pointer (some ⟨w.heap.size, 0, none⟩)] 40 (0, 0)) := fun o1 => by
    have := heap_alloc_new (w.alloc o1) (.cells #[.pointer (some ⟨w.heap.size, 0, none⟩)] 40)
    rwa [show (w.alloc o1).heap.size = w.heap.size + 1 by simp] at this
  have HC1 := hid hcell1
  clear hcell1
  have hta := ta40
  go_enter Try.func23, Try.ntmps23
  go_wp2_with (first | (at_builtin; go_must (refine wpList_append_at _ rfl _ _ 60 rfl 40 ti _ 8 Try.underlying60 hti hz0 hz1 hz2 rfl _ gp (ps.map ptrV) (by rfl) (HW.out _ _) ⟨w.heap.size + 1, 0, none⟩ 1 1 [.pointer (some ⟨w.heap.size, 0, none⟩)] (by rfl) rfl (by omega) (World.news_of_block (HC1.out _)) (by simp [Value.oneCell']) (by omega) (by omega) ?_); intro g1 off1 cap1 w2 hown2 hgr2 hat2; have hF2 : w2.heap[F]? = _ := (hgr2.block F (by simp; omega) HN.out).trans ((Below.heap_alloc _ _ _ (by simp; omega)).trans ((Below.heap_alloc _ _ _ ltF).trans HR.out)); have k4 := cell_of_row w2 F 4 _ _ _ hF2; have l4 := frozen_of_row w2 F 4 _ _ hF2; clear hF2) | go_in)
  go_ret
  have hl : (ps.map ptrV).length = ps.length := List.length_map ..
  rw [hl] at hown2
  exact ⟨_, g1, rfl, place_fin HH.out hB hown2 hgr2 (by simpa using hat2)⟩

end Go.Proofs.Qxb6613772a
