import Derived.Test.Qxb6613772aBase
namespace Go.Proofs.Qxb6613772a
open Go.RowKit
set_option linter.unusedVariables false

section
variable {P : Program}
/-- The builtin append, by its run. -/
theorem wpList_append_run {ops : Array Oper} {rest : List Oper} {o : Oper} {a : Act} {w : World} {Q : Exit → Act → World → Prop} (hgd : o.guard = none) (s x : Operand) (t : TypeId)
    (ho : o.op = .call { callee := .builtin .append, args := #[s, x], argTypes := #[t, t] }) (v u : Value) (hs : a.eval s = v) (hx : a.eval x = u) (r : Value) (w' : World)
    (hrun : (Builtin.append_ #[t, t] o.type #[v, u]).run P w = .ok r w') (h : wpList P ops Q rest (a.put o.dst r) w') : wpList P ops Q (o :: rest) a w := by
  refine wpList_plain hgd fun K hK => ?_
  unfold Oper.wp execOp
  simp only [ho, resolve, invoke, builtin, Sem.run_bind, Sem.run_pure, Result.andThen_ok, List.map_toArray, List.map_cons, List.map_nil, hs, hx, hrun]
  exact hK _ _ h
theorem wpList_append_at (w : World) {ops : Array Oper} {rest : List Oper} {o : Oper} {a : Act} {Q : Exit → Act → World → Prop} (hgd : o.guard = none) (s x : Operand) (t : TypeId)
    (ho : o.op = .call { callee := .builtin .append, args := #[s, x], argTypes := #[t, t] })
    (e : TypeId) (i : TypeInfo) (z : Value) (bytes : Nat) (ht : P.underlying t = some (.slice e)) (hi : P.info? e = some i) (hz : i.zero = some z) (hs : i.size = 1) (hby : i.bytes = bytes) (hzs : z.cells.size = 1)
    (v : Value) (go : Option Nat) (xs : List Value) (hv : a.eval s = v) (hown : Own w e v go xs) (ad : Addr) (m c : Nat) (news : List Value) (hx : a.eval x = .slice (some ad) m c) (hl : news.length = m) (hm : 0 < m)
    (hnews : ∀ j u, news[j]? = some u → w.cell? (ad.add j) = some u) (h1 : ∀ u ∈ news, u.oneCell' = true) (hbytes : (xs.length + m) * bytes ≤ 140737488355328) (h63 : xs.length + m ≤ 9223372036854775807)
    (h : ∀ g' off' cap' w', Own w' e (.slice (some ⟨g', off', none⟩) (xs.length + m) cap') (some g') (xs ++ news) → w.grownBy w' go → (some g' = go ∨ g' = w.heap.size) → wpList P ops Q rest (a.put o.dst (.slice (some ⟨g', off', none⟩) (xs.length + m) cap')) w') :
    wpList P ops Q (o :: rest) a w := by
  obtain ⟨g', off', cap', w', hr, h2, h3, h4⟩ := run_append_at (P := P) w t o.type e i z bytes ht hi hz hs hby hzs v go xs hown ad m c news hl hm hnews h1 hbytes h63
  exact wpList_append_run hgd s x t ho v _ hv hx _ w' hr (h g' off' cap' w' h2 h3 h4)
end

theorem bytesV_len (bs : List Int) : (bytesV bs).length = bs.length := by simp [bytesV]
theorem bytesV_at (bs : List Int) (i : Nat) (h : i < bs.length) : (bytesV bs)[i]? = some (.int .u8 bs[i]) := by simp [bytesV, h]
/-- Of a message: nil and empty, or its cells. -/
theorem MsgAt.open {w : World} {v : Value} {bs : List Int} (h : MsgAt w v bs) : ∃ a c, v = .slice a bs.length c ∧ (bs.length = 0 ∨ ∃ b o, a = some ⟨b, o, none⟩ ∧ ∀ i (hi : i < bs.length), w.cell? ⟨b, o + i, none⟩ = some (.int .u8 bs[i])) := by
  obtain ⟨r, a, c, h1, h2⟩ := h
  rw [bytesV_len] at h1 h2
  refine ⟨a, c, h1, h2.imp id ?_⟩
  rintro ⟨b, o, _, h4, h5⟩
  exact ⟨b, o, h4, fun i hi => by rw [h5 i hi, bytesV_at bs i hi]⟩
theorem MsgAt.mk {w : World} {a : Option Addr} {c : Nat} {bs : List Int} (h : bs.length = 0 ∨ ∃ b o, a = some ⟨b, o, none⟩ ∧ ∀ i (hi : i < bs.length), w.cell? ⟨b, o + i, none⟩ = some (.int .u8 bs[i])) : MsgAt w (.slice a bs.length c) bs := by
  rcases h with h | ⟨b, o, h1, h2⟩
  · exact ⟨none, a, c, by rw [bytesV_len], .inl (by rw [bytesV_len]; exact h)⟩
  · refine ⟨some b, a, c, by rw [bytesV_len], .inr ⟨b, o, rfl, h1, fun i hi => ?_⟩⟩
    rw [bytesV_len] at hi
    rw [h2 i hi, bytesV_at bs i hi]

/-- What 'make' lays, written out. -/
theorem own_row {w : World} {base : Nat} {e : TypeId} {g n : Nat} {xs : List Value} (h : w.ownsRow base e 1 (.slice (some ⟨g, 0, none⟩) n n) n xs) : ∃ cur, w.heap[g]? = some (.cells cur e (0, 0)) ∧ cur.size = n := by
  rcases h.2 with ⟨h1, _⟩ | ⟨g', cap, cur, h1, _, hg, _, _, hs, _⟩
  · cases h1
  · simp only [Value.slice.injEq, Option.some.injEq, Addr.mk.injEq] at h1
    obtain ⟨⟨rfl, _⟩, _, rfl⟩ := h1
    exact ⟨cur, hg, by simpa using hs⟩

/-- A message that lies from block B on (or is empty). -/
def MsgFrom (w : World) (B : Nat) (v : Value) (bs : List Int) : Prop := ∃ r, Lies w r v (bytesV bs) ∧ ∀ k, r = some k → B ≤ k
def MsgsFrom (w : World) (B : Nat) (hs : List Value) (L : List (List Int)) : Prop := hs.length = L.length ∧ ∀ i (h : i < L.length), ∃ v, hs[i]? = some v ∧ MsgFrom w B v L[i]
theorem MsgFrom.at {w : World} {B : Nat} {v : Value} {bs : List Int} (h : MsgFrom w B v bs) : MsgAt w v bs := by obtain ⟨r, h, _⟩ := h; exact ⟨r, h⟩
theorem MsgsFrom.at {w : World} {B : Nat} {hs : List Value} {L : List (List Int)} (h : MsgsFrom w B hs L) : MsgsAt w hs L := ⟨h.1, fun i hi => by obtain ⟨v, h1, h2⟩ := h.2 i hi; exact ⟨v, h1, h2.at⟩⟩
theorem MsgsFrom.nil (w : World) (B : Nat) : MsgsFrom w B [] [] := ⟨rfl, fun i h => by simp at h⟩
/-- Kept where nothing from B on that was there has turned. -/
theorem MsgFrom.kept {w w' : World} {B : Nat} {v : Value} {bs : List Int} (h : MsgFrom w B v bs) (hb : ∀ k, B ≤ k → k < w.heap.size → w'.heap[k]? = w.heap[k]?) : MsgFrom w' B v bs := by
  obtain ⟨r, h1, h2⟩ := h
  rcases h1.lt with h0 | ⟨k, hk, hlt⟩
  · obtain ⟨a, c, h3, _⟩ := h1
    exact ⟨none, ⟨a, c, h3, .inl h0⟩, fun k hk => by cases hk⟩
  · exact ⟨r, h1.kept (fun j hj => by obtain rfl : j = k := by rw [hj] at hk; exact Option.some.inj hk
                                      exact hb j (h2 j hj) hlt), h2⟩
theorem MsgsFrom.kept {w w' : World} {B : Nat} {hs : List Value} {L : List (List Int)} (h : MsgsFrom w B hs L) (hb : ∀ k, B ≤ k → k < w.heap.size → w'.heap[k]? = w.heap[k]?) : MsgsFrom w' B hs L :=
  ⟨h.1, fun i hi => by obtain ⟨v, h1, h2⟩ := h.2 i hi; exact ⟨v, h1, h2.kept hb⟩⟩
theorem MsgFrom.mono {w : World} {B B' : Nat} {v : Value} {bs : List Int} (h : MsgFrom w B v bs) (hB : B' ≤ B) : MsgFrom w B' v bs := by
  obtain ⟨r, h1, h2⟩ := h; exact ⟨r, h1, fun k hk => Nat.le_trans hB (h2 k hk)⟩
theorem MsgsFrom.snoc {w : World} {B : Nat} {hs : List Value} {L : List (List Int)} {v : Value} {bs : List Int} (h : MsgsFrom w B hs L) (hv : MsgFrom w B v bs) : MsgsFrom w B (hs ++ [v]) (L ++ [bs]) := by
  refine ⟨by simp [h.1], fun i hi => ?_⟩
  by_cases e : i < L.length
  · obtain ⟨u, h1, h2⟩ := h.2 i e
    exact ⟨u, by rw [List.getElem?_append_left (by rw [h.1]; exact e)]; exact h1, by rw [List.getElem_append_left e]; exact h2⟩
  · obtain rfl : i = L.length := by simp at hi; omega
    exact ⟨v, by rw [List.getElem?_append_right (by rw [h.1]; exact Nat.le_refl _), h.1]; simp, by simpa using hv⟩

set_option maxHeartbeats 400000 in
set_option maxRecDepth 10000 in
theorem cloneMsg (w : World) (v : Value) (bs : List Int) (h : MsgAt w v bs) (hl : bs.length ≤ 1048576) :
    Calls Try.prog 30 #[v] w fun e w' => ∃ a c, e = .returned (.slice a bs.length c) ∧ Below w.heap.size w w' ∧ MsgFrom w' w.heap.size (.slice a bs.length c) bs := by
  obtain ⟨a, c, rfl, hc⟩ := h.open
  have hnil := fun (w : World) (a : Option Addr) (n c : Nat) => Lib.run_eql_slice_nil (P := Try.prog) w 29 5 a n c 0 0 Try.underlying29
  obtain ⟨i, hi, hz0, hz1, hz2⟩ := info_parts info5
  rcases a with _ | x
  · have h0 : bs.length = 0 := by
      rcases hc with hc | ⟨b, o, h1, _⟩
      · exact hc
      · cases h1
    go_enter Try.func30, Try.ntmps30
    go_wp2
    go_ret
    exact ⟨none, 0, by rw [h0]; rfl, Below.refl _ _, none, ⟨_, _, by rw [bytesV_len], .inl (by rw [bytesV_len]; exact h0)⟩, fun k hk => by cases hk⟩
  · have HC := hid hc
    clear hc
    go_enter Try.func30, Try.ntmps30
    go_wp2_with (at_make; refine wpList_make_full _ rfl _ _ 29 rfl w.heap.size 5 i _ 1 Try.underlying29 hi hz0 hz1 .i64 .i64 _ _ bs.length (by rfl) (by rfl) rfl rfl (by rw [hz2]; omega) (by unfold maxLen; omega) (Nat.le_refl _) ?_; intro w1 hown1 hgr1)
    go_loopw [4] (fun t w' => ∃ (k : Nat) (cur : Array Value), k ≤ bs.length ∧ t = .int .i64 k ∧ Below w.heap.size w w' ∧ w'.heap[w.heap.size]? = some (.cells cur 5 (0, 0)) ∧ cur.size = bs.length ∧ ∀ j (hj : j < bs.length), j < k → cur[j]? = some (.int .u8 bs[j])) (fun t _ => bs.length - (intOf t).toNat)
    case atStart =>
      obtain ⟨cur, h1, h2⟩ := own_row hown1
      exact ⟨0, cur, by omega, rfl, (Below.refl _ _).grown hgr1 (Nat.le_refl _) (fun k hk => by cases hk), h1, h2, fun j _ hj => by omega⟩
    case round =>
      obtain ⟨k, cur, hk, rfl, hbel, hg, hcs, hcur⟩ := hrel
      by_cases hlt : k < bs.length
      · obtain ⟨b, o, hx, hcell⟩ : ∃ b o, some x = some ⟨b, o, none⟩ ∧ ∀ i (hi : i < bs.length), w.cell? ⟨b, o + i, none⟩ = some (.int .u8 bs[i]) := by
          rcases HC.out with h0 | h0
          · omega
          · exact h0
        obtain rfl := Option.some.inj hx
        have hc1 := cell_later hbel (hcell k hlt)
        have hc2 : wr.cell? ⟨w.heap.size, k, none⟩ = some cur[k] := by rw [cell_of_row _ _ _ _ _ _ hg]; exact Array.getElem?_eq_getElem (by omega)
        have hf := frozen_of_row wr w.heap.size k _ _ hg
        have HG := hid hg
        have HCU := hid hcur
        clear hg hcur hx hcell
        have i1 : (k : Int) < (bs.length : Int) := by omega
        go_wp2
        go_roundw
        case rel =>
          refine ⟨k + 1, _, by omega, by go_num, hbel.setCell (Nat.le_refl _) _, heap_setCell_same wr _ k _ _ _ HG.out, by simpa using hcs, fun j hj hjk => ?_⟩
          rw [Array.getElem?_setIfInBounds]
          by_cases e : k = j
          · subst e; rw [if_pos rfl, if_pos (by omega)]
          · rw [if_neg e]; exact HCU.out j hj (by omega)
        case measure => simp [intOf]; omega
      · have HG := hid hg
        clear hg
        go_wp2
        go_ret
        refine ⟨_, _, rfl, hbel, some w.heap.size, ⟨_, _, by rw [bytesV_len], .inr ⟨_, 0, rfl, rfl, fun j hj => ?_⟩⟩, fun k hk => by rw [← Option.some.inj hk]; exact Nat.le_refl _⟩
        rw [bytesV_len] at hj
        rw [Nat.zero_add, cell_of_row _ _ _ _ _ _ HG.out, hcur j hj (by omega), bytesV_at bs j hj]

/-- A slice whose capacity is its length: an append of something makes a new row. -/
def FullAt (w : World) (r : Option Nat) (v : Value) (xs : List Value) : Prop :=
  (v = .slice none 0 0 ∧ xs = [] ∧ r = none) ∨ ∃ b, r = some b ∧ v = .slice (some ⟨b, 0, none⟩) xs.length xs.length ∧ ∃ cur, w.heap[b]? = some (.cells cur 29 (0, 0)) ∧ cur.size = xs.length ∧ ∀ i, i < xs.length → cur[i]? = xs[i]?
theorem FullAt.own {w : World} {r : Option Nat} {v : Value} {xs : List Value} (h : FullAt w r v xs) : Own w 29 v r xs := by
  rcases h with h | ⟨b, h1, h2, cur, h3, h4, h5⟩
  · exact .inl h
  · exact .inr ⟨b, 0, xs.length, cur, h1, h2, h3, Nat.le_refl _, by omega, fun i hi => by rw [Nat.zero_add]; exact h5 i hi⟩
theorem FullAt.kept {w w' : World} {r : Option Nat} {v : Value} {xs : List Value} (h : FullAt w r v xs) (hb : ∀ k, r = some k → w'.heap[k]? = w.heap[k]?) : FullAt w' r v xs := by
  rcases h with h | ⟨b, h1, h2, cur, h3, h4⟩
  · exact .inl h
  · exact .inr ⟨b, h1, h2, cur, by rw [hb b h1]; exact h3, h4⟩
theorem Lies.open {w : World} {r : Option Nat} {v : Value} {hs : List Value} (h : Lies w r v hs) : ∃ a c, v = .slice a hs.length c ∧ (hs.length = 0 ∨ ∃ b o, a = some ⟨b, o, none⟩ ∧ ∀ i (hi : i < hs.length), w.cell? ⟨b, o + i, none⟩ = some hs[i]) := by
  obtain ⟨a, c, h1, h2⟩ := h
  refine ⟨a, c, h1, h2.imp id ?_⟩
  rintro ⟨b, o, _, h4, h5⟩
  exact ⟨b, o, h4, fun i hi => by rw [h5 i hi]; exact List.getElem?_eq_getElem hi⟩

set_option maxHeartbeats 400000 in
set_option maxRecDepth 10000 in
theorem cloneMsgs (w : World) (r : Option Nat) (v : Value) (hs : List Value) (L : List (List Int)) (h : Lies w r v hs) (hm : MsgsAt w hs L) (hL : L.length ≤ 1048576) (hl : ∀ b ∈ L, b.length ≤ 1048576) :
    Calls Try.prog 9 #[v] w fun e w' => ∃ a r' hs', e = .returned (.slice a L.length L.length) ∧ Below w.heap.size w w' ∧ FullAt w' r' (.slice a L.length L.length) hs' ∧ (∀ k, r' = some k → w.heap.size ≤ k) ∧ MsgsFrom w' w.heap.size hs' L := by
  obtain ⟨a, c, rfl, hc⟩ := h.open
  have hnil := fun (w : World) (a : Option Addr) (n c : Nat) => Lib.run_eql_slice_nil (P := Try.prog) w 22 29 a n c 0 0 Try.underlying22
  obtain ⟨i, hi, hz0, hz1, hz2⟩ := info_parts info29
  have hLn := hm.1
  rcases a with _ | x
  · have h0 : hs.length = 0 := by
      rcases hc with hc | ⟨b, o, h1, _⟩
      · exact hc
      · cases h1
    go_enter Try.func9, Try.ntmps9
    go_wp2
    go_ret
    have hLz : L = [] := List.eq_nil_of_length_eq_zero (by omega)
    subst hLz
    exact ⟨none, none, [], rfl, Below.refl _ _, .inl ⟨rfl, rfl, rfl⟩, fun k hk => by (cases hk), MsgsFrom.nil _ _⟩
  · have HC := hid hc
    have HL := hid hLn
    have hLl : hs.length ≤ 1048576 := by omega
    clear hc hLn
    go_enter Try.func9, Try.ntmps9
    go_wp2_with (at_make; refine wpList_make_full _ rfl _ _ 22 rfl w.heap.size 29 i _ 1 Try.underlying22 hi hz0 hz1 .i64 .i64 _ _ hs.length (by rfl) (by rfl) rfl rfl (by rw [hz2]; omega) (by unfold maxLen; omega) (Nat.le_refl _) ?_; intro w1 hown1 hgr1)
    go_loopw [4] (fun t w' => ∃ (k : Nat) (cur : Array Value) (hs' : List Value), k ≤ hs.length ∧ t = .int .i64 k ∧ Below w.heap.size w w' ∧ w'.heap[w.heap.size]? = some (.cells cur 29 (0, 0)) ∧ cur.size = hs.length ∧ hs'.length = k ∧ (∀ j, j < k → cur[j]? = hs'[j]?) ∧ MsgsFrom w' (w.heap.size + 1) hs' (L.take k)) (fun t _ => hs.length - (intOf t).toNat)
    case atStart =>
      obtain ⟨cur, h1, h2⟩ := own_row hown1
      exact ⟨0, cur, [], by omega, rfl, (Below.refl _ _).grown hgr1 (Nat.le_refl _) (fun k hk => by cases hk), h1, h2, rfl, fun j hj => by omega, by rw [List.take_zero]; exact MsgsFrom.nil _ _⟩
    case round =>
      obtain ⟨k, cur, hs', hk, rfl, hbel, hg, hcs, hsl, hcur, hms⟩ := hrel
      have hsz : w.heap.size < wr.heap.size := (Array.getElem?_eq_some_iff.1 hg).1
      by_cases hlt : k < hs.length
      · obtain ⟨b, o, hx, hcell⟩ : ∃ b o, some x = some ⟨b, o, none⟩ ∧ ∀ i (hi : i < hs.length), w.cell? ⟨b, o + i, none⟩ = some hs[i] := by
          rcases HC.out with h0 | h0
          · omega
          · exact h0
        obtain rfl := Option.some.inj hx
        have hkL : k < L.length := by have := HL.out; omega
        obtain ⟨u, hu, hmu⟩ := hm.2 k hkL
        rw [List.getElem?_eq_getElem hlt] at hu
        obtain rfl := Option.some.inj hu
        obtain ⟨au, cu, hue, _⟩ := hmu.open
        have hc1 := cell_later hbel (hcell k hlt)
        rw [hue] at hc1 hmu
        have hmu' := hmu.later hbel
        have hlen := hl _ (List.getElem_mem hkL)
        obtain ⟨cv, hcv⟩ : ∃ cv, cur[k]? = some cv := ⟨_, Array.getElem?_eq_getElem (by omega)⟩
        have HG := hid hg
        have HCU := hid hcur
        have HUE := hid hue
        have HSL := hid hsl
        have HCV := hid hcv
        have HCS := hid hcs
        clear hg hcur hx hcell hu hue hsl hcs h hm hmu hcv
        have i1 : (k : Int) < (hs.length : Int) := by omega
        go_wp2_with (go_at_call 30; refine (cloneMsg _ _ _ hmu' hlen).mono ?_; rintro e w2 ⟨a', c', rfl, hb2, hm2⟩; have hg2 := (hb2.block _ hsz).trans HG.out; have hc2 : w2.cell? ⟨w.heap.size, k, none⟩ = some cv := (cell_of_row _ _ _ _ _ _ hg2).trans HCV.out; have hf2 := frozen_of_row w2 w.heap.size k _ _ hg2; have HG2 := hid hg2; clear hg2)
        go_roundw
        case rel =>
          have hbs : Below w.heap.size w w2 := hbel.trans (hb2.mono hbel.size)
          refine ⟨k + 1, _, hs' ++ [.slice a' L[k].length c'], by omega, by go_num, hbs.setCell (Nat.le_refl _) _, heap_setCell_same w2 _ k _ _ _ HG2.out, by simpa using HCS.out, by simp [HSL.out], fun j hj => ?_, ?_⟩
          · rw [Array.getElem?_setIfInBounds]
            by_cases e : k = j
            · subst e
              rw [if_pos rfl, if_pos (by have := HCS.out; omega), List.getElem?_append_right (by rw [HSL.out]; exact Nat.le_refl _), HSL.out]
              simp
            · rw [if_neg e, List.getElem?_append_left (by rw [HSL.out]; omega)]
              exact HCU.out j (by omega)
          · rw [List.take_succ_eq_append_getElem hkL]
            refine MsgsFrom.snoc (hms.kept fun j hj hj' => ?_) ((hm2.mono hsz).kept fun j hj hj' => ?_)
            · rw [heap_setCell_other w2 _ _ _ (by show j ≠ w.heap.size; omega)]; exact hb2.block j hj'
            · exact heap_setCell_other w2 _ _ _ (by show j ≠ w.heap.size; omega)
        case measure => simp [intOf]; omega
      · obtain rfl : k = hs.length := by omega
        have HG := hid hg
        have HSL := hid hsl
        have HCS := hid hcs
        clear hg hsl hcs
        go_wp2
        go_ret
        refine ⟨some ⟨w.heap.size, 0, none⟩, some w.heap.size, hs', by rw [← HL.out]; rfl, hbel, .inr ⟨w.heap.size, rfl, by rw [HSL.out, HL.out], cur, HG.out, by rw [HSL.out]; exact HCS.out, fun j hj => hcur j (by rw [HSL.out] at hj; exact hj)⟩, fun j hj => by rw [← Option.some.inj hj]; exact Nat.le_refl _, ?_⟩
        rw [List.take_of_length_le (by have := HL.out; omega)] at hms
        exact ⟨hms.1, fun j hj => by obtain ⟨v, g1, g2⟩ := hms.2 j hj; exact ⟨v, g1, g2.mono (by omega)⟩⟩
end Go.Proofs.Qxb6613772a
