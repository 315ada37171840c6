import Derived.Test.Qxb6613041aReach
namespace Go.Proofs.Qxb6613041a
open Go.RowKit

theorem hid {p : Prop} (h : p) : Hid p := h
/-- One component's cells: its number, two nil slices. -/
abbrev comp (x : Int) : List Value := [.int .u8 x, .slice none 0 0, .slice none 0 0]
theorem info54 : (Try.prog.info? 54).map (fun i => (i.zero, i.size, i.bytes)) = some (some (.agg #[.int .u8 0, .slice none 0 0, .slice none 0 0]), 3, 56) := by kernel_rfl

def Lvl1 (w : World) (b : Nat) (p : Int) (v : Value) (n : Nat) (xs : List Value) : Prop :=
  w.heap[b]? = some (.cells #[v, .int .u16 p, .slice none 0 0] 51 (0, 0)) ∧ w.ownsRow (b + 1) 54 3 v n xs

theorem newLevel (p : Int) (w : World) :
    Calls Try.prog 10 #[.int .u16 p] w fun e w' => e = .returned (.pointer (some ⟨w.heap.size, 0, none⟩)) ∧ w' = w.alloc (.cells #[.slice none 0 0, .int .u16 p, .slice none 0 0] 51) := by
  go_enter Try.func10, Try.ntmps10
  go_wp2
  go_ret
  exact ⟨rfl, rfl⟩

theorem own_ne {w : World} {base b : Nat} {e : TypeId} {size n : Nat} {v : Value} {xs : List Value} (h : w.ownsRow base e size v n xs) (hb : b < base) : some b ≠ v.ownBlock := by
  intro e
  have := (h.lt b e.symm).1
  omega
theorem own_form {w : World} {base : Nat} {e : TypeId} {size n : Nat} {v : Value} {xs : List Value} (h : w.ownsRow base e size v n xs) : (∃ g cap, v = .slice (some ⟨g, 0, none⟩) n cap) ∨ v = .slice none 0 0 := by
  rcases h.2 with ⟨h1, _⟩ | ⟨g, cap, cur, h1, _⟩
  · exact .inr h1
  · exact .inl ⟨g, cap, h1⟩
/-- Behind the append: the struct's block is as it was. -/
theorem kept_block {w w1 : World} {o : Obj} {b base : Nat} {e : TypeId} {size n : Nat} {v : Value} {xs : List Value} {C : Array Value} (hown : w.ownsRow base e size v n xs) (hgrow : (w.alloc o).grownBy w1 v.ownBlock) (hbb : b < base) (hb : w.heap[b]? = some (.cells C 51 (0, 0))) :
    w1.heap[b]? = some (.cells C 51 (0, 0)) := by
  have hlt : b < w.heap.size := (Array.getElem?_eq_some_iff.1 hb).1
  rw [hgrow.block b (by simp; omega) (own_ne hown hbb), Below.heap_alloc w o b hlt, hb]
theorem below_grown {w w1 : World} {o : Obj} {b base : Nat} {e : TypeId} {size n : Nat} {v : Value} {xs : List Value} (hown : w.ownsRow base e size v n xs) (hgrow : (w.alloc o).grownBy w1 v.ownBlock) (hbb : b ≤ base) (hbw : b ≤ w.heap.size) : Below b w w1 :=
  ((Below.refl b w).alloc hbw o).grown hgrow (by simp; omega) (fun k hk => by have := (hown.lt k hk).1; omega)
theorem own_setCell {w : World} {base : Nat} {e : TypeId} {size n : Nat} {v u : Value} {xs : List Value} {a : Addr} (h : w.ownsRow base e size v n xs) (ha : a.block < base) : (w.setCell a u).ownsRow base e size v n xs := ownsRow_setCell_below h ha u

set_option maxHeartbeats 400000 in
set_option maxRecDepth 100000 in
theorem addSGX (w : World) (b : Nat) (p x : Int) (v : Value) (n : Nat) (xs : List Value) (h : Lvl1 w b p v n xs) (hn : n ≤ 65536) :
    Calls Try.prog 11 #[.pointer (some ⟨b, 0, none⟩), .int .u8 x] w fun e w' => e = .returned (.tuple #[]) ∧ Below b w w' ∧ ∃ v', Lvl1 w' b p v' (n + 1) (xs ++ comp x) := by
  obtain ⟨hb, hown⟩ := h
  have hlt : b < w.heap.size := (Array.getElem?_eq_some_iff.1 hb).1
  have hc0 : w.cell? ⟨b, 0, none⟩ = some v := by rw [cell_of_row _ _ _ _ _ _ hb]; rfl
  obtain ⟨i, hi, hz0, hz1, hz2⟩ := info_parts info54
  have HB := hid hb
  clear hb
  rcases own_form hown with ⟨g0, cap0, rfl⟩ | rfl
  all_goals
    go_enter Try.func11, Try.ntmps11
    go_wp2_with (at_builtin; go_must (refine wpList_append_lies _ rfl _ _ _ rfl (b + 1) 54 i _ 3 56 Try.underlying49 hi hz0 hz1 hz2 rfl (by omega) _ n xs (by rfl) (hown.alloc _) ⟨w.heap.size, 0, none⟩ 1 1 (comp x) (by rfl) rfl (World.news_of_block (heap_alloc_new w _)) (by simp [comp, Value.oneCell']) (by omega) (by unfold maxLen; omega) (by omega) (by simp; omega) (w.heap.size + 1) (by simp) ?_); intro g cap w1 hown1 hgrow hat hlt1; have hb1 := kept_block hown hgrow (by omega) (HB.out); have hcc : w1.cell? ⟨b, 0, none⟩ = some _ := cell_of_row _ _ _ _ _ _ hb1; have hff := frozen_of_row w1 b 0 _ _ hb1; have HB1 := hid hb1; clear hb1)
    go_end0
    have hbl := below_grown (b := b) hown hgrow (by omega) (by omega)
    refine ⟨rfl, hbl.setCell (Nat.le_refl _) _, _, ?_, own_setCell hown1 (by show b < b + 1; omega)⟩
    rw [heap_setCell_same w1 b 0 _ _ _ (HB1.out)]
    rfl

def Lvl2 (w : World) (b B2 : Nat) (p : Int) (v1 v2 : Value) (n : Nat) (ys : List Value) : Prop :=
  w.heap[b]? = some (.cells #[v1, .int .u16 p, v2] 51 (0, 0)) ∧ w.ownsRow B2 54 3 v2 n ys ∧ b < B2 ∧ B2 ≤ w.heap.size
set_option maxHeartbeats 400000 in
set_option maxRecDepth 100000 in
theorem addTDX (w : World) (b B2 : Nat) (p x : Int) (v1 v : Value) (n : Nat) (ys : List Value) (h : Lvl2 w b B2 p v1 v n ys) (hn : n ≤ 65536) :
    Calls Try.prog 12 #[.pointer (some ⟨b, 0, none⟩), .int .u8 x] w fun e w' => e = .returned (.tuple #[]) ∧ Below b w w' ∧ (∀ k, k < B2 → k ≠ b → w'.heap[k]? = w.heap[k]?) ∧ ∃ v', Lvl2 w' b B2 p v1 v' (n + 1) (ys ++ comp x) := by
  obtain ⟨hb, hown, hbB, hBw⟩ := h
  have hlt : b < w.heap.size := (Array.getElem?_eq_some_iff.1 hb).1
  have hc0 : w.cell? ⟨b, 2, none⟩ = some v := by rw [cell_of_row _ _ _ _ _ _ hb]; rfl
  obtain ⟨i, hi, hz0, hz1, hz2⟩ := info_parts info54
  have HB := hid hb
  clear hb
  rcases own_form hown with ⟨g0, cap0, rfl⟩ | rfl
  all_goals
    go_enter Try.func12, Try.ntmps12
    go_wp2_with (at_builtin; go_must (refine wpList_append_lies _ rfl _ _ _ rfl B2 54 i _ 3 56 Try.underlying49 hi hz0 hz1 hz2 rfl (by omega) _ n ys (by rfl) (hown.alloc _) ⟨w.heap.size, 0, none⟩ 1 1 (comp x) (by rfl) rfl (World.news_of_block (heap_alloc_new w _)) (by simp [comp, Value.oneCell']) (by omega) (by unfold maxLen; omega) (by omega) (by simp; omega) (w.heap.size + 1) (by simp) ?_); intro g cap w1 hown1 hgrow hat hlt1; have hb1 := kept_block hown hgrow (by omega) HB.out; have hcc : w1.cell? ⟨b, 2, none⟩ = some _ := cell_of_row _ _ _ _ _ _ hb1; have hff := frozen_of_row w1 b 2 _ _ hb1; have HB1 := hid hb1; clear hb1)
    go_end0
    have hbl := below_grown (b := b) hown hgrow (by omega) (by omega)
    have hbl2 := below_grown (b := B2) hown hgrow (by omega) (by omega)
    refine ⟨rfl, hbl.setCell (Nat.le_refl _) _, fun k hk hkb => ?_, _, ?_, own_setCell hown1 hbB, hbB, ?_⟩
    · rw [Below.heap_setCell _ _ _ _ hkb]; exact hbl2.block k hk
    · rw [heap_setCell_same w1 b 2 _ _ _ HB1.out]; rfl
    · have := hbl2.size; simp [World.setCell]; omega

/-! ### buildLevel -/
def compsOf (s : Nat → Int) : Nat → List Value
  | 0 => []
  | k + 1 => compsOf s k ++ comp (s k)
theorem compsOf_length (s : Nat → Int) : ∀ n, (compsOf s n).length = n * 3
  | 0 => rfl
  | n + 1 => by rw [compsOf, List.length_append, compsOf_length s n]; simp; omega
theorem compsOf_at (s : Nat → Int) : ∀ n i, i < n → (compsOf s n)[i * 3]? = some (.int .u8 (s i))
  | n + 1, i, h => by
    rw [compsOf]
    by_cases e : i = n
    · subst e
      rw [List.getElem?_append_right (by rw [compsOf_length]; exact Nat.le_refl _), compsOf_length, Nat.sub_self]
      rfl
    · rw [List.getElem?_append_left (by rw [compsOf_length]; omega)]
      exact compsOf_at s n i (by omega)
theorem row_cells {w : World} {base n g cap : Nat} {s : Nat → Int} (h : w.ownsRow base 54 3 (.slice (some ⟨g, 0, none⟩) n cap) n (compsOf s n)) : ∀ i, i < n → w.cell? ⟨g, i * 3, none⟩ = some (.int .u8 (s i)) := fun i hi => by
  have := h.cells (g := g) rfl (i * 3) _ (compsOf_at s n i hi)
  rwa [Addr.add_mid, Nat.zero_add] at this
/-- The argument slice: its first n numbers. -/
def Reads (w : World) (a : Option Addr) (n : Nat) (s : Nat → Int) : Prop := n = 0 ∨ ∃ b off, a = some ⟨b, off, none⟩ ∧ ∀ i, i < n → w.cell? ⟨b, off + i, none⟩ = some (.int .u8 (s i))
theorem Reads.later {w w' : World} {a : Option Addr} {n : Nat} {s : Nat → Int} (h : Reads w a n s) (hb : Below w.heap.size w w') : Reads w' a n s := by
  rcases h with h | ⟨b, off, h1, h2⟩
  · exact .inl h
  · exact .inr ⟨b, off, h1, fun i hi => cell_later hb (h2 i hi)⟩
set_option maxHeartbeats 400000 in
theorem buildLevel (w : World) (a1 a2 : Option Addr) (n1 c1 n2 c2 : Nat) (p : Int) (s t : Nat → Int) (h1 : Reads w a1 n1 s) (h2 : Reads w a2 n2 t) (hn1 : n1 ≤ 65536) (hn2 : n2 ≤ 65536) (hpos : 0 < n1) :
    Calls Try.prog 6 #[.slice a1 n1 c1, .int .u16 p, .slice a2 n2 c2] w fun e w' => e = .returned (.pointer (some ⟨w.heap.size, 0, none⟩)) ∧ Below w.heap.size w w' ∧ LevelAt w' w.heap.size p n1 n2 s t := by
  rcases h1 with h1 | ⟨b1, o1, rfl, hc1⟩
  · omega
  go_enter Try.func6, Try.ntmps6
  go_wp2_with (go_at_call 10; refine (newLevel _ _).mono ?_; rintro e w' ⟨rfl, rfl⟩)
  go_loopw [8] (fun i w' => ∃ k : Nat, k ≤ n1 ∧ i = .int .i64 k ∧ Below w.heap.size w w' ∧ ∃ v, Lvl1 w' w.heap.size p v k (compsOf s k)) (fun i _ => n1 - (intOf i).toNat)
  case atStart => exact ⟨0, by omega, rfl, (Below.refl _ _).alloc (Nat.le_refl _) _, _, heap_alloc_new w _, World.ownsRow_nil _ _ _ _⟩
  case round =>
    obtain ⟨k, hk, rfl, hbel, v, hL⟩ := hrel
    by_cases hlt : k < n1
    · have hcell := cell_later hbel (hc1 k hlt)
      go_wp2_with (go_at_call 11; refine (addSGX _ _ p _ v k _ hL (by omega)).mono ?_; rintro e w' ⟨rfl, hb', hl'⟩)
      go_roundw
      case rel => exact ⟨k + 1, by omega, by go_num, hbel.trans hb', hl'⟩
      case measure => simp [intOf]; omega
    · obtain rfl : k = n1 := by omega
      obtain ⟨w1, rfl⟩ : ∃ w1 : World, w1 = wr := ⟨_, rfl⟩
      have hlt1 : w.heap.size < w1.heap.size := (Array.getElem?_eq_some_iff.1 hL.1).1
      go_wp2_with fail
      go_loopw [9] (fun i w' => ∃ k2 : Nat, k2 ≤ n2 ∧ i = .int .i64 k2 ∧ Below w.heap.size w w' ∧ (∀ j, j < w1.heap.size → j ≠ w.heap.size → w'.heap[j]? = w1.heap[j]?) ∧ ∃ v2, Lvl2 w' w.heap.size w1.heap.size p v v2 k2 (compsOf t k2)) (fun i _ => n2 - (intOf i).toNat)
      case atStart => exact ⟨0, by omega, rfl, hbel, fun _ _ _ => rfl, _, hL.1, World.ownsRow_nil _ _ _ _, hlt1, Nat.le_refl _⟩
      case round =>
        obtain ⟨k2, hk2, rfl, hbel2, hsame, v2, hL2⟩ := hrel
        by_cases hlt2 : k2 < n2
        · rcases h2 with h2 | ⟨b2, o2, rfl, hc2⟩
          · omega
          have hcell := cell_later hbel2 (hc2 k2 hlt2)
          have HS := hid hsame
          clear hsame
          go_wp2_with (go_at_call 12; refine (addTDX _ _ _ p _ v v2 k2 _ hL2 (by omega)).mono ?_; rintro e w' ⟨rfl, hb', hs', hl'⟩)
          go_roundw
          case rel => exact ⟨k2 + 1, by omega, by go_num, hbel2.trans hb', fun j hj hj' => (hs' j hj hj').trans (HS.out j hj hj'), hl'⟩
          case measure => simp [intOf]; omega
        · obtain rfl : k2 = n2 := by omega
          have HS := hid hsame
          clear hsame
          go_wp2_with fail
          go_ret
          refine ⟨rfl, hbel2, ?_, ?_, ?_⟩
          · rw [cell_of_row _ _ _ _ _ _ hL2.1]; rfl
          · obtain ⟨g, cap, rfl, hg1, hg2⟩ := hL.2.form (by omega)
            refine ⟨g, cap, ?_, fun i hi => ?_⟩
            · rw [cell_of_row _ _ _ _ _ _ hL2.1]; rfl
            · rw [World.cell?_of_block (HS.out g hg2 (by omega))]; exact row_cells hL.2 i hi
          · rcases Nat.eq_zero_or_pos k2 with h0 | h0
            · exact .inl h0
            · obtain ⟨g, cap, rfl, hg1, hg2⟩ := hL2.2.1.form h0
              refine .inr ⟨g, cap, ?_, fun i hi => row_cells hL2.2.1 i hi⟩
              rw [cell_of_row _ _ _ _ _ _ hL2.1]; rfl
end Go.Proofs.Qxb6613041a
