import Derived.Test.Qxb6613772aRows
import Derived.WalkKit
import Derived.ProofKit
import Derived.OpenShut
import Derived.WalkSpells
import Derived.WalkLawsBesides
import Derived.Deep.RegionHeld3
import Derived.Deep.AppendLies
import Derived.Deep.DeepCutAuto
import Derived.BigQuiet
import Derived.Lib.SliceRun
namespace Go.Proofs.Qxb6613772a
open Go.RowKit
set_option linter.unusedVariables false

theorem hid {p : Prop} (h : p) : Hid p := h
theorem ret_bool {a b : Bool} (h : a = b) : Ending.returned (.bool a) = .returned (.bool b) := by rw [h]
theorem ret_int {k : IntKind} {a b : Int} (h : a = b) : Ending.returned (.int k a) = .returned (.int k b) := by rw [h]
theorem info29 : (Try.prog.info? 29).map (fun i => (i.zero, i.size, i.bytes)) = some (some (.slice none 0 0), 1, 24) := by kernel_rfl
theorem info5 : (Try.prog.info? 5).map (fun i => (i.zero, i.size, i.bytes)) = some (some (.int .u8 0), 1, 1) := by kernel_rfl

/-! ### What lies in memory -/
/-- A slice's elements, a cell each: xs; r: the block in which they lie (none: there are none). -/
def Lies (w : World) (r : Option Nat) (v : Value) (xs : List Value) : Prop :=
  ∃ a c, v = .slice a xs.length c ∧ (xs.length = 0 ∨ ∃ b o, r = some b ∧ a = some ⟨b, o, none⟩ ∧ ∀ i, i < xs.length → w.cell? ⟨b, o + i, none⟩ = xs[i]?)
/-- A message: a slice of bytes. -/
def bytesV (bs : List Int) : List Value := bs.map (Value.int .u8)
def MsgAt (w : World) (v : Value) (bs : List Int) : Prop := ∃ r, Lies w r v (bytesV bs)
/-- Messages: the headers hs read as L. -/
def MsgsAt (w : World) (hs : List Value) (L : List (List Int)) : Prop := hs.length = L.length ∧ ∀ i (h : i < L.length), ∃ v, hs[i]? = some v ∧ MsgAt w v L[i]

theorem cell_kept {w w' : World} {a : Addr} {v : Value} (hb : w'.heap[a.block]? = w.heap[a.block]?) (h : w.cell? a = some v) : w'.cell? a = some v := (World.cell?_of_block hb).trans h
theorem Lies.later {w w' : World} {r : Option Nat} {v : Value} {xs : List Value} (h : Lies w r v xs) (hb : Below w.heap.size w w') : Lies w' r v xs := by
  obtain ⟨a, c, h1, h2⟩ := h
  refine ⟨a, c, h1, h2.imp id ?_⟩
  rintro ⟨b, o, h3, h4, h5⟩
  refine ⟨b, o, h3, h4, fun i hi => ?_⟩
  have := h5 i hi
  rw [List.getElem?_eq_getElem hi] at this ⊢
  exact cell_later hb this
theorem Lies.kept {w w' : World} {r : Option Nat} {v : Value} {xs : List Value} (h : Lies w r v xs) (hb : ∀ k, r = some k → w'.heap[k]? = w.heap[k]?) : Lies w' r v xs := by
  obtain ⟨a, c, h1, h2⟩ := h
  refine ⟨a, c, h1, h2.imp id ?_⟩
  rintro ⟨b, o, h3, h4, h5⟩
  exact ⟨b, o, h3, h4, fun i hi => (World.cell?_of_block (hb b h3)).trans (h5 i hi)⟩
theorem Lies.lt {w : World} {r : Option Nat} {v : Value} {xs : List Value} (h : Lies w r v xs) : xs.length = 0 ∨ ∃ k, r = some k ∧ k < w.heap.size := by
  obtain ⟨a, c, h1, h2⟩ := h
  by_cases h0 : xs.length = 0
  · exact .inl h0
  · rcases h2 with h2 | ⟨b, o, h3, h4, h5⟩
    · exact absurd h2 h0
    · refine .inr ⟨b, h3, ?_⟩
      have := h5 0 (by omega)
      rw [List.getElem?_eq_getElem (by omega)] at this
      exact World.block_lt_of_cell? w _ this
/-- Below a block number under which all of it lies. -/
theorem Lies.below {w w' : World} {B : Nat} {r : Option Nat} {v : Value} {xs : List Value} (h : Lies w r v xs) (hr : xs.length = 0 ∨ ∃ k, r = some k ∧ k < B) (hb : Below B w w') : Lies w' r v xs := by
  obtain ⟨a, c, h1, h2⟩ := h
  refine ⟨a, c, h1, ?_⟩
  rcases hr with hr | ⟨k, hk, hkB⟩
  · exact .inl hr
  · refine h2.imp id ?_
    rintro ⟨b, o, h3, h4, h5⟩
    obtain rfl : b = k := by rw [h3] at hk; exact Option.some.inj hk
    exact ⟨b, o, h3, h4, fun i hi => (World.cell?_of_block (hb.block b hkB)).trans (h5 i hi)⟩
theorem MsgAt.later {w w' : World} {v : Value} {bs : List Int} (h : MsgAt w v bs) (hb : Below w.heap.size w w') : MsgAt w' v bs := by
  obtain ⟨r, h⟩ := h; exact ⟨r, h.later hb⟩
theorem MsgsAt.later {w w' : World} {hs : List Value} {L : List (List Int)} (h : MsgsAt w hs L) (hb : Below w.heap.size w w') : MsgsAt w' hs L :=
  ⟨h.1, fun i hi => by obtain ⟨v, h1, h2⟩ := h.2 i hi; exact ⟨v, h1, h2.later hb⟩⟩
theorem MsgsAt.nil (w : World) : MsgsAt w [] [] := ⟨rfl, fun i h => by simp at h⟩
theorem MsgsAt.append {w : World} {hs hs' : List Value} {L L' : List (List Int)} (h : MsgsAt w hs L) (h' : MsgsAt w hs' L') : MsgsAt w (hs ++ hs') (L ++ L') := by
  refine ⟨by simp [h.1, h'.1], fun i hi => ?_⟩
  by_cases e : i < L.length
  · obtain ⟨v, h1, h2⟩ := h.2 i e
    exact ⟨v, by rw [List.getElem?_append_left (by rw [h.1]; exact e)]; exact h1, by rw [List.getElem_append_left e]; exact h2⟩
  · have e' : i - L.length < L'.length := by simp at hi; omega
    obtain ⟨v, h1, h2⟩ := h'.2 (i - L.length) e'
    exact ⟨v, by rw [List.getElem?_append_right (by rw [h.1]; omega), h.1]; exact h1, by rw [List.getElem_append_right (by omega)]; exact h2⟩
theorem MsgsAt.take {w : World} {hs : List Value} {L : List (List Int)} (h : MsgsAt w hs L) (k : Nat) : MsgsAt w (hs.take k) (L.take k) := by
  refine ⟨by simp [h.1], fun i hi => ?_⟩
  have hi' : i < k ∧ i < L.length := by simp at hi; omega
  obtain ⟨v, h1, h2⟩ := h.2 i hi'.2
  exact ⟨v, by rw [List.getElem?_take, if_pos hi'.1]; exact h1, by rw [List.getElem_take]; exact h2⟩
theorem MsgsAt.drop {w : World} {hs : List Value} {L : List (List Int)} (h : MsgsAt w hs L) (k : Nat) : MsgsAt w (hs.drop k) (L.drop k) := by
  refine ⟨by simp [h.1], fun i hi => ?_⟩
  have hi' : k + i < L.length := by simp at hi; omega
  obtain ⟨v, h1, h2⟩ := h.2 (k + i) hi'
  exact ⟨v, by rw [List.getElem?_drop]; exact h1, by rw [List.getElem_drop]; exact h2⟩

/-! ### A slice of one-cell elements that the call itself made, maybe cut from the front -/
/-- go: its block; xs: its elements. -/
def Own (w : World) (e : TypeId) (v : Value) (go : Option Nat) (xs : List Value) : Prop :=
  (v = .slice none 0 0 ∧ xs = [] ∧ go = none) ∨
  ∃ g off cap cur, go = some g ∧ v = .slice (some ⟨g, off, none⟩) xs.length cap ∧ w.heap[g]? = some (.cells cur e (0, 0)) ∧ xs.length ≤ cap ∧ off + cap ≤ cur.size ∧ ∀ i, i < xs.length → cur[off + i]? = xs[i]?
theorem Own.lies {w : World} {e : TypeId} {v : Value} {go : Option Nat} {xs : List Value} (h : Own w e v go xs) : Lies w go v xs := by
  rcases h with ⟨rfl, rfl, rfl⟩ | ⟨g, off, cap, cur, rfl, rfl, hg, _, _, hx⟩
  · exact ⟨none, 0, rfl, .inl rfl⟩
  · exact ⟨_, _, rfl, .inr ⟨g, off, rfl, rfl, fun i hi => by rw [cell_of_row _ _ _ _ _ _ hg]; exact hx i hi⟩⟩
theorem Own.kept {w w' : World} {e : TypeId} {v : Value} {go : Option Nat} {xs : List Value} (h : Own w e v go xs) (hb : ∀ k, go = some k → w'.heap[k]? = w.heap[k]?) : Own w' e v go xs := by
  rcases h with h | ⟨g, off, cap, cur, h1, h2, hg, h3⟩
  · exact .inl h
  · exact .inr ⟨g, off, cap, cur, h1, h2, by rw [hb g h1]; exact hg, h3⟩
theorem Own.lt {w : World} {e : TypeId} {v : Value} {go : Option Nat} {xs : List Value} (h : Own w e v go xs) : ∀ k, go = some k → k < w.heap.size := by
  rintro k rfl
  rcases h with ⟨_, _, h⟩ | ⟨g, off, cap, cur, h1, h2, hg, h3⟩
  · cases h
  · obtain rfl := Option.some.inj h1
    exact (Array.getElem?_eq_some_iff.1 hg).1
theorem add_off (g off j : Nat) : (⟨g, off, none⟩ : Addr).add j = ⟨g, off + j, none⟩ := by unfold Addr.add; split <;> simp_all

section
variable {P : Program} (w : World)
/-- append of nothing: the slice as it was. -/
theorem run_append_zero (t ty e : TypeId) (i : TypeInfo) (ht : P.underlying t = some (.slice e)) (hi : P.info? e = some i) (a : Option Addr) (n cap : Nat) (hc : n ≤ cap) (b : Option Addr) (c : Nat) :
    (Builtin.append_ #[t, t] ty #[.slice a n cap, .slice b 0 c]).run P w = .ok (.slice a n cap) w := by
  cases a <;> cases b <;> simp [Builtin.append_, run_underlying ht, sizeOf, typeInfo, hi, Builtin.lenOf, Builtin.firstCells, loadCells, loadCellsFrom, hc, storeCells]
/-- append of something onto a slice of the call's own. -/
theorem run_append_at (t ty e : TypeId) (i : TypeInfo) (z : Value) (bytes : Nat) (ht : P.underlying t = some (.slice e)) (hi : P.info? e = some i) (hz : i.zero = some z) (hs : i.size = 1) (hby : i.bytes = bytes) (hzs : z.cells.size = 1)
    (v : Value) (go : Option Nat) (xs : List Value) (hown : Own w e v go xs) (a : Addr) (m c : Nat) (news : List Value) (hl : news.length = m) (hm : 0 < m)
    (hnews : ∀ j u, news[j]? = some u → w.cell? (a.add j) = some u) (h1 : ∀ u ∈ news, u.oneCell' = true) (hbytes : (xs.length + m) * bytes ≤ 140737488355328) (h63 : xs.length + m ≤ 9223372036854775807) :
    ∃ g' off' cap' w', (Builtin.append_ #[t, t] ty #[v, .slice (some a) m c]).run P w = .ok (.slice (some ⟨g', off', none⟩) (xs.length + m) cap') w' ∧
      Own w' e (.slice (some ⟨g', off', none⟩) (xs.length + m) cap') (some g') (xs ++ news) ∧ w.grownBy w' go ∧ (some g' = go ∨ g' = w.heap.size) := by
  subst hby
  have hz' : ∀ k, (Builtin.zeroCells z.cells k).size = k := fun k => by rw [size_zeroCells, hzs, Nat.mul_one]
  have hlen : (xs ++ news).length = xs.length + m := by simp [hl]
  have grown : ∀ (old : Nat) (row : Option Nat), Own (w.drew.alloc (.cells (xs.toArray ++ news.toArray ++ Builtin.zeroCells z.cells (grownCap w (xs.length + m) old e - (xs.length + m))) e)) e (.slice (some ⟨w.heap.size, 0, none⟩) (xs.length + m) (grownCap w (xs.length + m) old e)) (some w.heap.size) (xs ++ news) ∧
      w.grownBy (w.drew.alloc (.cells (xs.toArray ++ news.toArray ++ Builtin.zeroCells z.cells (grownCap w (xs.length + m) old e - (xs.length + m))) e)) row := by
    intro old row
    have hge := grownCap_ge w (xs.length + m) old e
    refine ⟨.inr ⟨w.heap.size, 0, _, _, rfl, by rw [hlen], heap_alloc_new w.drew _, by rw [hlen]; exact hge, ?_, fun i hi => ?_⟩, ⟨rfl, rfl, rfl, by simp, fun k hk _ => Below.heap_alloc w.drew _ k hk⟩⟩
    · simp only [Array.size_append, List.size_toArray, hz', hl]; omega
    · rw [hlen] at hi
      rw [Nat.zero_add, Array.getElem?_append_left (by simp [hl]; omega)]
      simp
  rcases hown with ⟨rfl, rfl, rfl⟩ | ⟨g, off, cap, cur, rfl, rfl, hg, hn, hcs, hx⟩
  · have hr := run_append_nil (P := P) w t ty e i z ht hi hz a m c news (by rw [hs, hl, Nat.mul_one]) hnews hm (by simp only [List.length_nil] at h63; omega) (by simp only [List.length_nil, Nat.zero_add] at hbytes; omega)
    have hgr := grown 0 none
    simp only [List.length_nil, Nat.zero_add, List.nil_append, Array.empty_append] at hgr ⊢
    exact ⟨_, _, _, _, hr, hgr.1, hgr.2, .inr rfl⟩
  · by_cases hroom : xs.length + m ≤ cap
    · have hst := run_storeCells_at P g (off + xs.length) e news 0 cur w hg (by omega) h1
      simp only [Nat.add_zero] at hst
      have hf := run_firstCells_some (P := P) w i.size m a m c news (by rw [hs, hl, Nat.mul_one]) hnews
      refine ⟨g, off, cap, w.setRow g (cur.toList.take (off + xs.length) ++ news ++ cur.toList.drop (off + xs.length + news.length)).toArray, ?_, .inr ⟨g, off, cap, _, rfl, by rw [hlen], setRow_heap w g cur _ e _ hg, by rw [hlen]; exact hroom, ?_, fun i hi => ?_⟩, ⟨rfl, rfl, rfl, by simp, fun k _ hk => setRow_other w g k _ (fun e => hk (by rw [e]))⟩, .inl rfl⟩
      · have hl' : (Builtin.lenOf (.slice (some a) m c)).run P w = .ok m w := rfl
        simp only [hs] at hf
        simp [Builtin.append_, run_underlying ht, sizeOf, typeInfo, hi, Builtin.lenOf, hroom, hs, hf, add_off, hst]
      · simp only [List.size_toArray, List.length_append, List.length_take, List.length_drop, Array.length_toList]
        omega
      · rw [hlen] at hi
        simp only [List.getElem?_toArray]
        by_cases e1 : i < xs.length
        · rw [List.append_assoc, List.getElem?_append_left (by simp; omega), List.getElem?_append_left e1, ← hx i e1, List.getElem?_take, if_pos (by omega)]
          simp
        · rw [List.append_assoc, List.getElem?_append_right (by simp; omega), List.getElem?_append_left (by simp; omega), List.getElem?_append_right (by omega)]
          congr 1
          simp
          omega
    · have holds : ∀ j u, xs[j]? = some u → w.cell? ((⟨g, off, none⟩ : Addr).add j) = some u := fun j u hu => by
        rw [add_off, cell_of_row _ _ _ _ _ _ hg, hx j (List.getElem?_eq_some_iff.1 hu).1, hu]
      have hr := run_append_grow (P := P) w t ty e i z ht hi hz ⟨g, off, none⟩ xs.length cap xs (by rw [hs, Nat.mul_one]) holds a m c news (by rw [hs, hl, Nat.mul_one]) hnews (by omega) (by omega) (growslice_fits (by omega) hbytes)
      have hgr := grown cap (some g)
      exact ⟨_, _, _, _, hr, hgr.1, hgr.2, .inr rfl⟩
end
end Go.Proofs.Qxb6613772a
