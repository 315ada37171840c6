import Derived.Test.Qxb6613772aSmall
namespace Go.Proofs.Qxb6613772a
open Go.RowKit
set_option linter.unusedVariables false

theorem nop_any (w : World) : Calls Try.prog 32 #[] w fun e w' => e = .returned (.tuple #[]) ∧ w' = w := by
  go_enter Try.func32, Try.ntmps32
  go_wp2
  go_end0
  exact ⟨rfl, rfl⟩
/-- The queue: its struct lies in block q; its messages' headers are hs. -/
def QAt (w : World) (q : Nat) (qv : Value) (go : Option Nat) (hs : List Value) : Prop :=
  w.heap[q]? = some (.cells #[.func (.func 32) #[] #[], qv] 50 (0, 0)) ∧ Own w 29 qv go hs ∧ go ≠ some q
/-- What an operation on the queue may turn: its struct, its row, new blocks. -/
structure Touch (w w' : World) (q : Nat) (go : Option Nat) : Prop where
  os : w'.os = w.os
  tape : w'.tape = w.tape
  output : w'.output = w.output
  size : w.heap.size ≤ w'.heap.size
  block : ∀ k, k < w.heap.size → k ≠ q → some k ≠ go → w'.heap[k]? = w.heap[k]?
theorem Touch.below {w w' : World} {q B : Nat} {go : Option Nat} (h : Touch w w' q go) (hB : B ≤ w.heap.size) (hq : B ≤ q) (hg : ∀ k, go = some k → B ≤ k) : Below B w w' :=
  ⟨h.os, h.tape, h.output, h.size, fun k hk => h.block k (by omega) (by omega) (fun e => by have := hg k e.symm; omega)⟩
theorem newQueue (w : World) : Calls Try.prog 10 #[] w fun e w' => e = .returned (.pointer (some ⟨w.heap.size, 0, none⟩)) ∧ Below w.heap.size w w' ∧ QAt w' w.heap.size (.slice none 0 0) none [] := by
  go_enter Try.func10, Try.ntmps10
  go_wp2
  go_ret
  exact ⟨rfl, (Below.refl _ _).alloc (Nat.le_refl _) _, heap_alloc_new w _, .inl ⟨rfl, rfl, rfl⟩, by simp⟩
theorem own_shape {w : World} {e : TypeId} {v : Value} {go : Option Nat} {xs : List Value} (h : Own w e v go xs) : (v = .slice none 0 0 ∧ xs.length = 0) ∨ ∃ g off cap, v = .slice (some ⟨g, off, none⟩) xs.length cap ∧ go = some g ∧ xs.length ≤ cap := by
  rcases h with ⟨h1, h2, _⟩ | ⟨g, off, cap, cur, h1, h2, h3, h4, _⟩
  · exact .inl ⟨h1, by rw [h2]; rfl⟩
  · exact .inr ⟨g, off, cap, h2, h1, h4⟩

theorem keep_q {w w1 : World} {o : Obj} {q : Nat} {go : Option Nat} {C : Array Value} {t : TypeId} (hgr : (w.alloc o).grownBy w1 go) (hne : go ≠ some q) (hq : w.heap[q]? = some (.cells C t (0, 0))) : w1.heap[q]? = some (.cells C t (0, 0)) := by
  have hlt : q < w.heap.size := (Array.getElem?_eq_some_iff.1 hq).1
  rw [hgr.block q (by simp; omega) (fun e => hne e.symm), Below.heap_alloc w o q hlt, hq]
theorem put_fin {w w1 : World} {o : Obj} {q : Nat} {qv v' : Value} {go : Option Nat} {hs hs' : List Value} {g' : Nat} (h : QAt w q qv go hs) (hown1 : Own w1 29 v' (some g') hs') (hgr : (w.alloc o).grownBy w1 go) (hat : some g' = go ∨ g' = w.heap.size + 1) :
    QAt (w1.setCell ⟨q, 1, none⟩ v') q v' (some g') hs' ∧ Touch w (w1.setCell ⟨q, 1, none⟩ v') q go ∧ (some g' = go ∨ w.heap.size ≤ g') := by
  obtain ⟨hq, hown, hne⟩ := h
  have hlt : q < w.heap.size := (Array.getElem?_eq_some_iff.1 hq).1
  have hq1 := keep_q hgr hne hq
  have hg'q : g' ≠ q := by
    rcases hat with h | h
    · rintro rfl; exact hne h.symm
    · omega
  refine ⟨⟨?_, hown1.kept (fun k hk => heap_setCell_other w1 _ _ _ (by obtain rfl := Option.some.inj hk; exact hg'q)), fun e => hg'q (Option.some.inj e)⟩, ⟨hgr.os, hgr.tape, hgr.output, ?_, fun k hk hkq hkg => ?_⟩, ?_⟩
  · rw [heap_setCell_same w1 q 1 _ _ _ hq1]; rfl
  · have := hgr.size; simp at this; simp [World.setCell]; omega
  · rw [heap_setCell_other w1 _ _ _ hkq, hgr.block k (by simp; omega) hkg, Below.heap_alloc w o k hk]
  · rcases hat with h | h
    · exact .inl h
    · exact .inr (by omega)

set_option maxHeartbeats 400000 in
set_option maxRecDepth 100000 in
theorem put_any (w : World) (q : Nat) (qv : Value) (go : Option Nat) (hs : List Value) (a : Option Addr) (n c : Nat) (h : QAt w q qv go hs) (hl : hs.length ≤ 4194304) :
    Calls Try.prog 11 #[.pointer (some ⟨q, 0, none⟩), .slice a n c] w fun e w' => e = .returned (.tuple #[]) ∧ ∃ qv' g', QAt w' q qv' (some g') (hs ++ [.slice a n c]) ∧ Touch w w' q go ∧ (some g' = go ∨ w.heap.size ≤ g') := by
  have HH := hid h
  obtain ⟨hq, hown, hne⟩ := h
  have hlt : q < w.heap.size := (Array.getElem?_eq_some_iff.1 hq).1
  have hc0 : w.cell? ⟨q, 1, none⟩ = some qv := by rw [cell_of_row _ _ _ _ _ _ hq]; rfl
  obtain ⟨i, hi, hz0, hz1, hz2⟩ := info_parts info29
  have HQ := hid hq
  have HNE := hid hne
  clear hq hne
  have hownA : ∀ o, Own (w.alloc o) 29 qv go hs := fun o => hown.kept (fun k hk => Below.heap_alloc w o k (hown.lt k hk))
  rcases own_shape hown with ⟨rfl, h0⟩ | ⟨g0, off0, cap0, rfl, hgo, hcap⟩
  · have H0 := hid h0
    clear h0
    go_enter Try.func11, Try.ntmps11
    go_wp2_with (first | (at_builtin; go_must (refine wpList_append_at _ rfl _ _ 22 rfl 29 i _ 24 Try.underlying22 hi hz0 hz1 hz2 rfl _ go hs (by rfl) (hownA _) ⟨w.heap.size, 0, none⟩ 1 1 [.slice a n c] (by rfl) rfl (by omega) (World.news_of_block (heap_alloc_new w _)) (by simp [Value.oneCell']) (by omega) (by omega) ?_); intro g1 off1 cap1 w1 hown1 hgr1 hat1; have hq1 := keep_q hgr1 HNE.out HQ.out; have hd0 : w1.cell? ⟨q, 0, none⟩ = some (.func (.func 32) #[] #[]) := cell_of_row _ _ _ _ _ _ hq1; have hd1 : w1.cell? ⟨q, 1, none⟩ = some (.slice none 0 0) := cell_of_row _ _ _ _ _ _ hq1; have hff := frozen_of_row w1 q 1 _ _ hq1; have HQ1 := hid hq1; clear hq1) | (go_at_call 32; refine (nop_any _).mono ?_; rintro e w2 ⟨rfl, rfl⟩))
    go_end0
    exact ⟨rfl, _, _, put_fin HH.out hown1 hgr1 (by simpa using hat1)⟩
  · have HGO := hid hgo
    clear hgo
    go_enter Try.func11, Try.ntmps11
    go_wp2_with (first | (at_builtin; go_must (refine wpList_append_at _ rfl _ _ 22 rfl 29 i _ 24 Try.underlying22 hi hz0 hz1 hz2 rfl _ go hs (by rfl) (hownA _) ⟨w.heap.size, 0, none⟩ 1 1 [.slice a n c] (by rfl) rfl (by omega) (World.news_of_block (heap_alloc_new w _)) (by simp [Value.oneCell']) (by omega) (by omega) ?_); intro g1 off1 cap1 w1 hown1 hgr1 hat1; have hq1 := keep_q hgr1 HNE.out HQ.out; have hd0 : w1.cell? ⟨q, 0, none⟩ = some (.func (.func 32) #[] #[]) := cell_of_row _ _ _ _ _ _ hq1; have hd1 : w1.cell? ⟨q, 1, none⟩ = some (.slice (some ⟨g0, off0, none⟩) hs.length cap0) := cell_of_row _ _ _ _ _ _ hq1; have hff := frozen_of_row w1 q 1 _ _ hq1; have HQ1 := hid hq1; clear hq1) | (go_at_call 32; refine (nop_any _).mono ?_; rintro e w2 ⟨rfl, rfl⟩))
    go_end0
    exact ⟨rfl, _, _, put_fin HH.out hown1 hgr1 (by simpa using hat1)⟩
end Go.Proofs.Qxb6613772a
