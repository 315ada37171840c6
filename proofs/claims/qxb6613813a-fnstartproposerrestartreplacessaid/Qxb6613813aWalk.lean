import Derived.Test.Qxb6613813aBase
namespace Go.Proofs.Qxb6613813a
open Go.RowKit Go.Maps
set_option linter.unusedVariables false

theorem info9 : (Try.prog.info? 9).map (fun i => (i.zero, i.size, i.bytes)) = some (some (.string ByteArray.empty), 1, 16) := by kernel_rfl

/-- Some slice. -/
def SomeSlice (e : Ending) : Prop := ∃ a n c, e = .returned (.slice a n c) ∧ n ≤ 1048576

theorem own_row {w : World} {base : Nat} {e : TypeId} {g n : Nat} {xs : List Value} (h : w.ownsRow base e 1 (.slice (some ⟨g, 0, none⟩) n n) n xs) : ∃ cur, w.heap[g]? = some (.cells cur e (0, 0)) ∧ cur.size = n := by
  rcases h.2 with ⟨h1, _⟩ | ⟨g', cap, cur, h1, _, hg, _, _, hs, _⟩
  · cases h1
  · simp only [Value.slice.injEq, Option.some.injEq, Addr.mk.injEq] at h1
    obtain ⟨⟨rfl, _⟩, _, rfl⟩ := h1
    exact ⟨cur, hg, by simpa using hs⟩

set_option maxHeartbeats 1000000 in
theorem cloneStrings (w : World) (a : Option Addr) (ss : List ByteArray) (c : Nat) (h : Strs w a ss) (hl : ss.length ≤ 1048576) :
    Calls Try.prog 12 #[.slice a ss.length c] w fun e w' => SomeSlice e ∧ Below w.heap.size w w' := by
  have hnil := fun (w : World) (a : Option Addr) (n c : Nat) => Lib.run_eql_slice_nil (P := Try.prog) w 36 9 a n c 0 0 Try.underlying36
  obtain ⟨i, hi, hz0, hz1, hz2⟩ := info_parts info9
  rcases a with _ | x
  · go_enter Try.func12, Try.ntmps12
    go_wp2
    go_ret
    exact ⟨⟨_, _, _, rfl, by omega⟩, Below.refl _ _⟩
  · have HC := hid h
    clear h
    go_enter Try.func12, Try.ntmps12
    go_wp2_with (at_make; refine wpList_make_full _ rfl _ _ 36 rfl w.heap.size 9 i _ 1 Try.underlying36 hi hz0 hz1 .i64 .i64 _ _ ss.length (by rfl) (by rfl) rfl rfl (by rw [hz2]; omega) (by unfold maxLen; omega) (Nat.le_refl _) ?_; intro w1 hown1 hgr1)
    go_loopw [4] (fun t w' => ∃ (k : Nat) (cur : Array Value), k ≤ ss.length ∧ t = .int .i64 k ∧ Below w.heap.size w w' ∧ w'.heap[w.heap.size]? = some (.cells cur 9 (0, 0)) ∧ cur.size = ss.length) (fun t _ => ss.length - (intOf t).toNat)
    case atStart =>
      obtain ⟨cur, h1, h2⟩ := own_row hown1
      exact ⟨0, cur, by omega, rfl, (Below.refl _ _).grown hgr1 (Nat.le_refl _) (fun k hk => by cases hk), h1, h2⟩
    case round =>
      obtain ⟨k, cur, hk, rfl, hbel, hg, hcs⟩ := hrel
      by_cases hlt : k < ss.length
      · obtain ⟨b, o, hx, hcell⟩ : ∃ b o, some x = some ⟨b, o, none⟩ ∧ ∀ i (hi : i < ss.length), w.cell? ⟨b, o + i, none⟩ = some (.string ss[i]) := by
          rcases HC.out with h0 | h0
          · omega
          · exact h0
        obtain rfl := Option.some.inj hx
        have hc1 := cell_later hbel (hcell k hlt)
        obtain ⟨cv, hcv⟩ : ∃ cv, cur[k]? = some cv := ⟨_, Array.getElem?_eq_getElem (by omega)⟩
        have hc2 : wr.cell? ⟨w.heap.size, k, none⟩ = some cv := (cell_of_row _ _ _ _ _ _ hg).trans hcv
        have hf2 := frozen_of_row wr w.heap.size k _ _ hg
        have HG := hid hg
        have HCS := hid hcs
        clear hg hx hcell hcs hcv
        have i1 : (k : Int) < (ss.length : Int) := by omega
        generalize ss[k] = sk at hc1
        go_wp2
        go_roundw
        case rel => exact ⟨k + 1, _, by omega, by go_num, hbel.setCell (Nat.le_refl _) _, heap_setCell_same wr _ k _ _ _ HG.out, by simpa using HCS.out⟩
        case measure => simp [intOf]; omega
      · go_wp2
        go_ret
        exact ⟨⟨_, _, _, rfl, hl⟩, hbel⟩

/-! ### The rounds -/
/-- The proposer's struct in block p: its two rounds can be read and written. -/
def PAt (w : World) (p : Nat) : Prop := ∃ cur, w.heap[p]? = some (.cells cur 71 (0, 0)) ∧ cur.size = 15 ∧ (∃ x, cur[5]? = some (.int .u64 x)) ∧ (∃ x, cur[6]? = some (.int .u64 x))

theorem PAt.set {w : World} {p : Nat} (h : PAt w p) (i : Nat) (hi : i = 5 ∨ i = 6) (v : Int) : PAt (w.setCell ⟨p, i, none⟩ (.int .u64 v)) p ∧ w.grownBy (w.setCell ⟨p, i, none⟩ (.int .u64 v)) (some p) := by
  obtain ⟨cur, hg, hs, ⟨x5, h5⟩, ⟨x6, h6⟩⟩ := h
  refine ⟨⟨_, heap_setCell_same w p i _ _ _ hg, by simpa using hs, ?_, ?_⟩, ⟨rfl, rfl, rfl, by simp [World.setCell], fun k _ hk => heap_setCell_other w _ _ _ (fun e => hk (by rw [e]))⟩⟩
  · rw [Array.getElem?_setIfInBounds]
    split
    · exact ⟨v, by rw [if_pos (by omega)]⟩
    · exact ⟨x5, h5⟩
  · rw [Array.getElem?_setIfInBounds]
    split
    · exact ⟨v, by rw [if_pos (by omega)]⟩
    · exact ⟨x6, h6⟩
theorem PAt.kept {w w' : World} {p : Nat} (h : PAt w p) (hb : w'.heap[p]? = w.heap[p]?) : PAt w' p := by
  obtain ⟨cur, hg, r⟩ := h
  exact ⟨cur, hb.trans hg, r⟩
theorem PAt.lt {w : World} {p : Nat} (h : PAt w p) : p < w.heap.size := by
  obtain ⟨cur, hg, _⟩ := h
  exact (Array.getElem?_eq_some_iff.1 hg).1

set_option maxHeartbeats 1000000 in
theorem see (w : World) (p : Nat) (r : Int) (h : PAt w p) :
    Calls Try.prog 23 #[.pointer (some ⟨p, 2, none⟩), .int .u64 r] w fun e w' => e = .returned (.tuple #[]) ∧ PAt w' p ∧ w.grownBy w' (some p) := by
  have HH := hid h
  obtain ⟨cur, hg, hs, ⟨x5, h5⟩, ⟨x6, h6⟩⟩ := h
  have c5 : w.cell? ⟨p, 5, none⟩ = some (.int .u64 x5) := (cell_of_row _ _ _ _ _ _ hg).trans h5
  have f5 := frozen_of_row w p 5 _ _ hg
  clear hg hs h5 h6
  go_enter Try.func23, Try.ntmps23
  go_wp2
  all_goals go_end0
  all_goals exact ⟨rfl, HH.out.set 5 (.inl rfl) _⟩

set_option maxHeartbeats 1000000 in
theorem resume (w : World) (p : Nat) (r : Int) (h : PAt w p) :
    Calls Try.prog 22 #[.pointer (some ⟨p, 2, none⟩), .int .u64 r] w fun e w' => e = .returned (.tuple #[]) ∧ PAt w' p ∧ w.grownBy w' (some p) := by
  have HH := hid h
  obtain ⟨cur, hg, hs, ⟨x5, h5⟩, ⟨x6, h6⟩⟩ := h
  have c6 : w.cell? ⟨p, 6, none⟩ = some (.int .u64 x6) := (cell_of_row _ _ _ _ _ _ hg).trans h6
  have f6 := frozen_of_row w p 6 _ _ hg
  clear hg hs h5 h6
  go_enter Try.func22, Try.ntmps22
  go_wp2_with (go_at_call 23; refine (see _ p r (HH.out.set 6 (.inr rfl) _).1).mono ?_; rintro e w2 ⟨rfl, hp2, hg2⟩; have HG := (HH.out.set 6 (.inr rfl) _).2.trans hg2; clear hg2)
  all_goals go_end0
  all_goals exact ⟨rfl, hp2, HG⟩

set_option maxHeartbeats 1000000 in
theorem Resume (w : World) (p : Nat) (r : Int) (h : PAt w p) :
    Calls Try.prog 21 #[.pointer (some ⟨p, 0, none⟩), .int .u64 r] w fun e w' => e = .returned (.tuple #[]) ∧ PAt w' p ∧ w.grownBy w' (some p) := by
  go_enter Try.func21, Try.ntmps21
  go_wp2_with (go_at_call 22; refine (resume _ p r h).mono ?_; rintro e w2 ⟨rfl, hp2, hg2⟩)
  all_goals go_end0
  all_goals exact ⟨rfl, hp2, hg2⟩

set_option maxHeartbeats 1000000 in
theorem newProposer (w : World) (id : Int) (v : ByteArray) (n : Nat) (hn : n ≤ 1048576) :
    Calls Try.prog 20 #[.int .u64 id, .string v, .int .i64 n] w fun e w' => e = .returned (.pointer (some ⟨w.heap.size + 2, 0, none⟩)) ∧ PAt w' (w.heap.size + 2) ∧ Below w.heap.size w w' := by
  have hmm := @run_makeMap Try.prog
  go_enter Try.func20, Try.ntmps20
  go_wp2_with (go_in)
  go_ret
  have hp : ((w.alloc (.map #[] 0)).alloc (.map #[] 0)).heap.size = w.heap.size + 2 := by simp
  refine ⟨rfl, ⟨_, by rw [← hp]; exact heap_alloc_new _ _, rfl, ⟨0, rfl⟩, ⟨0, rfl⟩⟩, (((Below.refl _ _).alloc (Nat.le_refl _) _).alloc (by simp) _).alloc (by simp; omega) _⟩

end Go.Proofs.Qxb6613813a
