import Derived.Test.Qxb6613772aQueue
namespace Go.Proofs.Qxb6613772a
open Go.RowKit
set_option linter.unusedVariables false

section
variable {P : Program} (w : World)
theorem run_append_full (t ty : TypeId) (i : TypeInfo) (z : Value) (bytes : Nat) (ht : P.underlying t = some (.slice 29)) (hi : P.info? 29 = some i) (hz : i.zero = some z) (hs : i.size = 1) (hby : i.bytes = bytes) (hzs : z.cells.size = 1)
    (v : Value) (r : Option Nat) (xs : List Value) (hf : FullAt w r v xs) (a : Addr) (m c : Nat) (news : List Value) (hl : news.length = m) (hm : 0 < m)
    (hnews : ∀ j u, news[j]? = some u → w.cell? (a.add j) = some u) (hbytes : (xs.length + m) * bytes ≤ 140737488355328) (h63 : xs.length + m ≤ 9223372036854775807) :
    ∃ cap' w', (Builtin.append_ #[t, t] ty #[v, .slice (some a) m c]).run P w = .ok (.slice (some ⟨w.heap.size, 0, none⟩) (xs.length + m) cap') w' ∧
      Own w' 29 (.slice (some ⟨w.heap.size, 0, none⟩) (xs.length + m) cap') (some w.heap.size) (xs ++ news) ∧ w.grownBy w' none := by
  subst hby
  have hz' : ∀ k, (Builtin.zeroCells z.cells k).size = k := fun k => by rw [size_zeroCells, hzs, Nat.mul_one]
  have hlen : (xs ++ news).length = xs.length + m := by simp [hl]
  have grown : ∀ (old : Nat), Own (w.drew.alloc (.cells (xs.toArray ++ news.toArray ++ Builtin.zeroCells z.cells (grownCap w (xs.length + m) old 29 - (xs.length + m))) 29)) 29 (.slice (some ⟨w.heap.size, 0, none⟩) (xs.length + m) (grownCap w (xs.length + m) old 29)) (some w.heap.size) (xs ++ news) ∧
      w.grownBy (w.drew.alloc (.cells (xs.toArray ++ news.toArray ++ Builtin.zeroCells z.cells (grownCap w (xs.length + m) old 29 - (xs.length + m))) 29)) none := by
    intro old
    have hge := grownCap_ge w (xs.length + m) old 29
    refine ⟨.inr ⟨w.heap.size, 0, _, _, rfl, by rw [hlen], heap_alloc_new w.drew _, by rw [hlen]; exact hge, ?_, fun i hi => ?_⟩, ⟨rfl, rfl, rfl, by simp, fun k hk _ => Below.heap_alloc w.drew _ k hk⟩⟩
    · simp only [Array.size_append, List.size_toArray, hz', hl]; omega
    · rw [hlen] at hi
      rw [Nat.zero_add, Array.getElem?_append_left (by simp [hl]; omega)]
      simp
  rcases hf with ⟨rfl, rfl, rfl⟩ | ⟨b, rfl, rfl, cur, hg, hcs, hx⟩
  · have hr := run_append_nil (P := P) w t ty 29 i z ht hi hz a m c news (by rw [hs, hl, Nat.mul_one]) hnews hm (by simp only [List.length_nil] at h63; omega) (by simp only [List.length_nil, Nat.zero_add] at hbytes; omega)
    have hgr := grown 0
    simp only [List.length_nil, Nat.zero_add, List.nil_append, Array.empty_append] at hgr ⊢
    exact ⟨_, _, hr, hgr.1, hgr.2⟩
  · have holds : ∀ j u, xs[j]? = some u → w.cell? ((⟨b, 0, none⟩ : Addr).add j) = some u := fun j u hu => by
      rw [add_off, Nat.zero_add, cell_of_row _ _ _ _ _ _ hg, hx j (List.getElem?_eq_some_iff.1 hu).1, hu]
    have hr := run_append_grow (P := P) w t ty 29 i z ht hi hz ⟨b, 0, none⟩ xs.length xs.length xs (by rw [hs, Nat.mul_one]) holds a m c news (by rw [hs, hl, Nat.mul_one]) hnews (by omega) (by omega) (growslice_fits (by omega) hbytes)
    have hgr := grown xs.length
    exact ⟨_, _, hr, hgr.1, hgr.2⟩
end

theorem full_shape {w : World} {r : Option Nat} {v : Value} {xs : List Value} (h : FullAt w r v xs) : ∃ a, v = .slice a xs.length xs.length := by
  rcases h with ⟨rfl, rfl, _⟩ | ⟨b, _, rfl, _⟩
  · exact ⟨none, rfl⟩
  · exact ⟨_, rfl⟩

theorem zero29 (w : World) : (zeroValue 29).run Try.prog w = .ok (.slice none 0 0) w := by
  obtain ⟨i, hi, hz0, _⟩ := info_parts info29
  simp [zeroValue, typeInfo, hi, hz0]
/-- clear(s), s a part of a row of the call's own. -/
theorem wpList_clear {ops : Array Oper} {rest : List Oper} {o : Oper} {a : Act} {w : World} {Q : Exit → Act → World → Prop} (hgd : o.guard = none) (x : Operand)
    (ho : o.op = .call { callee := .builtin .clear, args := #[x], argTypes := #[22] }) (g off n c : Nat) (cur : Array Value) (hx : a.eval x = .slice (some ⟨g, off, none⟩) n c) (hn : 0 < n)
    (hg : w.heap[g]? = some (.cells cur 29 (0, 0))) (hb : off + n ≤ cur.size)
    (h : ∀ w' cur', w'.heap[g]? = some (.cells cur' 29 (0, 0)) → cur'.size = cur.size → (∀ i, off + n ≤ i → cur'[i]? = cur[i]?) → w.grownBy w' (some g) → w'.heap.size = w.heap.size → wpList Try.prog ops Q rest (a.put o.dst (.tuple #[])) w') :
    wpList Try.prog ops Q (o :: rest) a w := by
  have hst := run_storeCells_at Try.prog g off 29 (List.replicate n (.slice none 0 0)) 0 cur w hg (by simpa using hb) (fun v hv => by rw [List.eq_of_mem_replicate hv]; rfl)
  simp only [Nat.add_zero, List.length_replicate] at hst
  have hzc : (Builtin.zeroCells (Value.slice none 0 0).cells n).toList = List.replicate n (.slice none 0 0) := by
    show (Builtin.zeroCells #[Value.slice none 0 0] n).toList = _
    simp [Builtin.zeroCells]
    apply List.ext_getElem
    · simp
    · intro i h1 h2
      simp [Nat.mod_one]
  have hrun : (Builtin.clear_ #[22] o.type #[.slice (some ⟨g, off, none⟩) n c]).run Try.prog w = .ok (.tuple #[]) (w.setRow g (cur.toList.take off ++ List.replicate n (Value.slice none 0 0) ++ cur.toList.drop (off + n)).toArray) := by
    obtain ⟨m, rfl⟩ : ∃ m, n = m + 1 := ⟨n - 1, by omega⟩
    simp [Builtin.clear_, run_underlying Try.underlying22, hzc, hst]

  refine wpList_plain hgd fun K hK => ?_
  unfold Oper.wp execOp
  simp only [ho, resolve, invoke, builtin, Sem.run_bind, Sem.run_pure, Result.andThen_ok, List.map_toArray, List.map_cons, List.map_nil, hx, hrun]
  refine hK _ _ (h _ _ (setRow_heap w g cur _ 29 _ hg) ?_ (fun i hi => ?_) ⟨rfl, rfl, rfl, by simp, fun k _ hk => setRow_other w g k _ (fun e => hk (by rw [e]))⟩ (by simp))
  · simp only [List.size_toArray, List.length_append, List.length_take, List.length_drop, List.length_replicate, Array.length_toList]; omega
  · simp only [List.getElem?_toArray]
    rw [List.getElem?_append_right (by simp; omega), List.getElem?_drop]
    have : off + n + (i - (List.take off cur.toList ++ List.replicate n (Value.slice none 0 0)).length) = i := by simp; omega
    rw [this]
    simp
theorem wpList_clear_none {ops : Array Oper} {rest : List Oper} {o : Oper} {a : Act} {w : World} {Q : Exit → Act → World → Prop} (hgd : o.guard = none) (x : Operand)
    (ho : o.op = .call { callee := .builtin .clear, args := #[x], argTypes := #[22] }) (b : Option Addr) (c : Nat) (hx : a.eval x = .slice b 0 c)
    (h : wpList Try.prog ops Q rest (a.put o.dst (.tuple #[])) w) : wpList Try.prog ops Q (o :: rest) a w := by
  have hrun : (Builtin.clear_ #[22] o.type #[.slice b 0 c]).run Try.prog w = .ok (.tuple #[]) w := by
    cases b <;> simp [Builtin.clear_, run_underlying Try.underlying22]
  refine wpList_plain hgd fun K hK => ?_
  unfold Oper.wp execOp
  simp only [ho, resolve, invoke, builtin, Sem.run_bind, Sem.run_pure, Result.andThen_ok, List.map_toArray, List.map_cons, List.map_nil, hx, hrun]
  exact hK _ _ h
theorem wpList_append_full (w : World) {ops : Array Oper} {rest : List Oper} {o : Oper} {a : Act} {Q : Exit → Act → World → Prop} (hgd : o.guard = none) (s x : Operand)
    (ho : o.op = .call { callee := .builtin .append, args := #[s, x], argTypes := #[22, 22] })
    (v : Value) (r : Option Nat) (xs : List Value) (hv : a.eval s = v) (hf : FullAt w r v xs) (ad : Addr) (m c : Nat) (news : List Value) (hx : a.eval x = .slice (some ad) m c) (hl : news.length = m) (hm : 0 < m)
    (hnews : ∀ j u, news[j]? = some u → w.cell? (ad.add j) = some u) (hbytes : (xs.length + m) * 24 ≤ 140737488355328) (h63 : xs.length + m ≤ 9223372036854775807)
    (h : ∀ cap' w', Own w' 29 (.slice (some ⟨w.heap.size, 0, none⟩) (xs.length + m) cap') (some w.heap.size) (xs ++ news) → w.grownBy w' none → wpList Try.prog ops Q rest (a.put o.dst (.slice (some ⟨w.heap.size, 0, none⟩) (xs.length + m) cap')) w') :
    wpList Try.prog ops Q (o :: rest) a w := by
  obtain ⟨i, hi, hz0, hz1, hz2⟩ := info_parts info29
  obtain ⟨cap', w', hr, h2, h3⟩ := run_append_full (P := Try.prog) w 22 o.type i _ 24 Try.underlying22 hi hz0 hz1 hz2 rfl v r xs hf ad m c news hl hm hnews hbytes h63
  exact wpList_append_run hgd s x 22 ho v _ hv hx _ w' hr (h cap' w' h2 h3)
theorem wpList_append_none {ops : Array Oper} {rest : List Oper} {o : Oper} {a : Act} {w : World} {Q : Exit → Act → World → Prop} (hgd : o.guard = none) (s x : Operand)
    (ho : o.op = .call { callee := .builtin .append, args := #[s, x], argTypes := #[22, 22] }) (ab : Option Addr) (n cap : Nat) (hc : n ≤ cap) (b : Option Addr) (c : Nat) (hs : a.eval s = .slice ab n cap) (hx : a.eval x = .slice b 0 c)
    (h : wpList Try.prog ops Q rest (a.put o.dst (.slice ab n cap)) w) : wpList Try.prog ops Q (o :: rest) a w := by
  obtain ⟨i, hi, _⟩ := info_parts info29
  exact wpList_append_run hgd s x 22 ho _ _ hs hx _ w (run_append_zero w 22 _ 29 i Try.underlying22 hi ab n cap hc b c) h

theorem take_fin {w w1 w2 : World} {q g : Nat} {qv nv rv : Value} {nq : Option Nat} {ns xs : List Value} (hq2 : w2.heap[q]? = some (.cells #[.func (.func 32) #[] #[], qv] 50 (0, 0))) (hown1 : Own w1 29 rv (some w.heap.size) xs) (hgr1 : w.grownBy w1 none) (hgr2 : w1.grownBy w2 (some g))
    (hglt : g < w.heap.size) (hqlt : q < w.heap.size) (hN : Own w2 29 nv nq ns) (hnq : nq = some g ∨ nq = none) (hgq : g ≠ q) :
    Lies (w2.setCell ⟨q, 1, none⟩ nv) (some w.heap.size) rv xs ∧ (∃ nv' nq', QAt (w2.setCell ⟨q, 1, none⟩ nv) q nv' nq' ns ∧ (nq' = some g ∨ nq' = none)) ∧ Touch w (w2.setCell ⟨q, 1, none⟩ nv) q (some g) := by
  have hs1 := hown1.lt _ rfl
  have hnq' : nq ≠ some q := by
    rcases hnq with h | h <;> rw [h]
    · simpa using hgq
    · simp
  refine ⟨hown1.lies.kept (fun k hk => ?_), ⟨nv, nq, ⟨?_, hN.kept (fun k hk => heap_setCell_other w2 _ _ _ (by rintro rfl; exact hnq' hk)), hnq'⟩, hnq⟩, ⟨?_, ?_, ?_, ?_, fun k hk hkq hkg => ?_⟩⟩
  · obtain rfl := Option.some.inj hk
    rw [heap_setCell_other w2 _ _ _ (by show w.heap.size ≠ q; omega), hgr2.block _ hs1 (by simp; omega)]
  · rw [heap_setCell_same w2 q 1 _ _ _ hq2]; rfl
  · exact hgr2.os.trans hgr1.os
  · exact hgr2.tape.trans hgr1.tape
  · exact hgr2.output.trans hgr1.output
  · have h1 := hgr1.size
    have h2 := hgr2.size
    simp [World.setCell]; omega
  · have h1 := hgr1.size
    rw [heap_setCell_other w2 _ _ _ hkq, hgr2.block k (by omega) hkg, hgr1.block k hk (by simp)]

set_option maxHeartbeats 400000 in
set_option maxRecDepth 100000 in
theorem take_some (w : World) (q : Nat) (g off cap : Nat) (hs : List Value) (rb : Option Nat) (ab : Option Addr) (bs : List Value) (N : Nat) (cur : Array Value)
    (hq : w.heap[q]? = some (.cells #[.func (.func 32) #[] #[], .slice (some ⟨g, off, none⟩) hs.length cap] 50 (0, 0))) (hg : w.heap[g]? = some (.cells cur 29 (0, 0))) (hgq : g ≠ q) (hcap : hs.length ≤ cap) (hcs : off + cap ≤ cur.size) (hx : ∀ i, i < hs.length → cur[off + i]? = hs[i]?)
    (hb : FullAt w rb (.slice ab bs.length bs.length) bs) (hN : 0 < N) (hlt : N < hs.length) (hl : hs.length + bs.length ≤ 4194304) :
    Calls Try.prog 12 #[.pointer (some ⟨q, 0, none⟩), .slice ab bs.length bs.length, .int .i64 N] w fun e w' => ∃ c, e = .returned (.slice (some ⟨w.heap.size, 0, none⟩) (bs.length + N) c) ∧ Lies w' (some w.heap.size) (.slice (some ⟨w.heap.size, 0, none⟩) (bs.length + N) c) (bs ++ hs.take N) ∧
      (∃ nv nq, QAt w' q nv nq (hs.drop N) ∧ (nq = some g ∨ nq = none)) ∧ Touch w w' q (some g) := by
  have hc1 : w.cell? ⟨q, 1, none⟩ = some (.slice (some ⟨g, off, none⟩) hs.length cap) := by rw [cell_of_row _ _ _ _ _ _ hq]; rfl
  have hqlt : q < w.heap.size := (Array.getElem?_eq_some_iff.1 hq).1
  have hglt : g < w.heap.size := (Array.getElem?_eq_some_iff.1 hg).1
  have hnews : ∀ j u, (hs.take N)[j]? = some u → w.cell? ((⟨g, off, none⟩ : Addr).add j) = some u := fun j u hu => by
    rw [add_off, cell_of_row _ _ _ _ _ _ hg]
    rw [List.getElem?_take] at hu
    split at hu
    · rw [hx j (by omega), hu]
    · cases hu
  have HQ := hid hq
  have HG := hid hg
  have HX := hid hx
  clear hq hg hx
  go_enter Try.func12, Try.ntmps12
  go_wp2_with (first | (at_builtin; go_must (refine wpList_append_full _ rfl _ _ rfl _ rb bs (by rfl) hb ⟨g, off, none⟩ N cap (hs.take N) (by rfl) (by simp; omega) hN hnews (by omega) (by omega) ?_); intro cap1 w1 hown1 hgr1; have hq1 := (hgr1.block q hqlt (by simp)).trans HQ.out; have hg1 := (hgr1.block g hglt (by simp)).trans HG.out; have hd1 : w1.cell? ⟨q, 1, none⟩ = some (.slice (some ⟨g, off, none⟩) hs.length cap) := cell_of_row _ _ _ _ _ _ hq1; have HQ1 := hid hq1; have HG1 := hid hg1; clear hq1 hg1) | ((with_reducible show wpList _ _ _ (Oper.mk _ (Op.call { callee := .builtin .clear, args := _, argTypes := _ }) _ _ _ _ :: _) _ _); go_must (refine wpList_clear rfl _ rfl g off N cap cur (by rfl) hN HG1.out (by omega) ?_); intro w2 cur2 hg2 hcs2 hx2 hgr2 hsz2; have hq2 := (hgr2.block q (by have := hgr1.size; omega) (by simp; omega)).trans HQ1.out; have hd2 : w2.cell? ⟨q, 1, none⟩ = some (.slice (some ⟨g, off, none⟩) hs.length cap) := cell_of_row _ _ _ _ _ _ hq2; have hf2 := frozen_of_row w2 q 1 _ _ hq2; have HQ2 := hid hq2; have HG2 := hid hg2; have HX2 := hid hx2; clear hq2 hg2 hx2))
  go_ret
  refine ⟨cap1, rfl, take_fin HQ2.out hown1 hgr1 hgr2 hglt hqlt (nq := some g) (.inr ⟨g, off + N, cap - N, cur2, rfl, by rw [List.length_drop], HG2.out, by rw [List.length_drop]; omega, by omega, fun i hi => ?_⟩) (.inl rfl) hgq⟩
  rw [List.length_drop] at hi
  rw [HX2.out _ (by omega), Nat.add_assoc, HX.out (N + i) (by omega), List.getElem?_drop]

set_option maxHeartbeats 400000 in
set_option maxRecDepth 100000 in
theorem take_all (w : World) (q : Nat) (g off cap : Nat) (hs : List Value) (rb : Option Nat) (ab : Option Addr) (bs : List Value) (N : Nat) (cur : Array Value)
    (hq : w.heap[q]? = some (.cells #[.func (.func 32) #[] #[], .slice (some ⟨g, off, none⟩) hs.length cap] 50 (0, 0))) (hg : w.heap[g]? = some (.cells cur 29 (0, 0))) (hgq : g ≠ q) (hcap : hs.length ≤ cap) (hcs : off + cap ≤ cur.size) (hx : ∀ i, i < hs.length → cur[off + i]? = hs[i]?)
    (hb : FullAt w rb (.slice ab bs.length bs.length) bs) (hN : 0 < hs.length) (hlt : hs.length ≤ N) (hl : hs.length + bs.length ≤ 4194304) :
    Calls Try.prog 12 #[.pointer (some ⟨q, 0, none⟩), .slice ab bs.length bs.length, .int .i64 N] w fun e w' => ∃ c, e = .returned (.slice (some ⟨w.heap.size, 0, none⟩) (bs.length + hs.length) c) ∧ Lies w' (some w.heap.size) (.slice (some ⟨w.heap.size, 0, none⟩) (bs.length + hs.length) c) (bs ++ hs.take hs.length) ∧
      (∃ nv nq, QAt w' q nv nq (hs.drop hs.length) ∧ (nq = some g ∨ nq = none)) ∧ Touch w w' q (some g) := by
  have hc1 : w.cell? ⟨q, 1, none⟩ = some (.slice (some ⟨g, off, none⟩) hs.length cap) := by rw [cell_of_row _ _ _ _ _ _ hq]; rfl
  have hqlt : q < w.heap.size := (Array.getElem?_eq_some_iff.1 hq).1
  have hglt : g < w.heap.size := (Array.getElem?_eq_some_iff.1 hg).1
  have hnews : ∀ j u, (hs.take hs.length)[j]? = some u → w.cell? ((⟨g, off, none⟩ : Addr).add j) = some u := fun j u hu => by
    rw [add_off, cell_of_row _ _ _ _ _ _ hg]
    rw [List.getElem?_take] at hu
    split at hu
    · rw [hx j (by omega), hu]
    · cases hu
  have HQ := hid hq
  have HG := hid hg
  have HX := hid hx
  clear hq hg hx
  have hmin : (if hs.length < N then (hs.length : Int) else (N : Int)) = (hs.length : Int) := by split <;> omega
  by_cases h256 : cap ≤ 256
  · go_enter Try.func12, Try.ntmps12
    go_wp2_with (first | (at_builtin; go_must (refine wpList_append_full _ rfl _ _ rfl _ rb bs (by rfl) hb ⟨g, off, none⟩ hs.length cap (hs.take hs.length) (by rfl) (by simp) hN hnews (by omega) (by omega) ?_); intro cap1 w1 hown1 hgr1; have hq1 := (hgr1.block q hqlt (by simp)).trans HQ.out; have hg1 := (hgr1.block g hglt (by simp)).trans HG.out; have hd1 : w1.cell? ⟨q, 1, none⟩ = some (.slice (some ⟨g, off, none⟩) hs.length cap) := cell_of_row _ _ _ _ _ _ hq1; have HQ1 := hid hq1; have HG1 := hid hg1; clear hq1 hg1) | ((with_reducible show wpList _ _ _ (Oper.mk _ (Op.call { callee := .builtin .clear, args := _, argTypes := _ }) _ _ _ _ :: _) _ _); go_must (refine wpList_clear rfl _ rfl g off hs.length cap cur (by rfl) hN HG1.out (by omega) ?_); intro w2 cur2 hg2 hcs2 hx2 hgr2 hsz2; have hq2 := (hgr2.block q (by have := hgr1.size; omega) (by simp; omega)).trans HQ1.out; have hd2 : w2.cell? ⟨q, 1, none⟩ = some (.slice (some ⟨g, off, none⟩) hs.length cap) := cell_of_row _ _ _ _ _ _ hq2; have hf2 := frozen_of_row w2 q 1 _ _ hq2; have HQ2 := hid hq2; have HG2 := hid hg2; have HX2 := hid hx2; clear hq2 hg2 hx2))
    go_ret
    exact ⟨cap1, rfl, take_fin HQ2.out hown1 hgr1 hgr2 hglt hqlt (nq := some g) (by rw [List.drop_length]; exact .inr ⟨g, off, cap, cur2, rfl, rfl, HG2.out, by simp, by omega, fun i hi => by simp at hi⟩) (.inl rfl) hgq⟩
  · go_enter Try.func12, Try.ntmps12
    go_wp2_with (first | (at_builtin; go_must (refine wpList_append_full _ rfl _ _ rfl _ rb bs (by rfl) hb ⟨g, off, none⟩ hs.length cap (hs.take hs.length) (by rfl) (by simp) hN hnews (by omega) (by omega) ?_); intro cap1 w1 hown1 hgr1; have hq1 := (hgr1.block q hqlt (by simp)).trans HQ.out; have hg1 := (hgr1.block g hglt (by simp)).trans HG.out; have hd1 : w1.cell? ⟨q, 1, none⟩ = some (.slice (some ⟨g, off, none⟩) hs.length cap) := cell_of_row _ _ _ _ _ _ hq1; have HQ1 := hid hq1; have HG1 := hid hg1; clear hq1 hg1) | ((with_reducible show wpList _ _ _ (Oper.mk _ (Op.call { callee := .builtin .clear, args := _, argTypes := _ }) _ _ _ _ :: _) _ _); go_must (refine wpList_clear rfl _ rfl g off hs.length cap cur (by rfl) hN HG1.out (by omega) ?_); intro w2 cur2 hg2 hcs2 hx2 hgr2 hsz2; have hq2 := (hgr2.block q (by have := hgr1.size; omega) (by simp; omega)).trans HQ1.out; have hd2 : w2.cell? ⟨q, 1, none⟩ = some (.slice (some ⟨g, off, none⟩) hs.length cap) := cell_of_row _ _ _ _ _ _ hq2; have hf2 := frozen_of_row w2 q 1 _ _ hq2; have HQ2 := hid hq2; have HG2 := hid hg2; have HX2 := hid hx2; clear hq2 hg2 hx2))
    go_ret
    exact ⟨cap1, rfl, take_fin HQ2.out hown1 hgr1 hgr2 hglt hqlt (nq := none) (by rw [List.drop_length]; exact .inl ⟨rfl, rfl, rfl⟩) (.inr rfl) hgq⟩

theorem take_fin0 {w : World} {q : Nat} {qv nv rv : Value} {rb nq : Option Nat} {ns bs : List Value} {go : Option Nat} (hq : w.heap[q]? = some (.cells #[.func (.func 32) #[] #[], qv] 50 (0, 0))) (hb : Own w 29 rv rb bs) (hrb : rb ≠ some q)
    (hN : Own w 29 nv nq ns) (hnq : nq ≠ some q) : Lies (w.setCell ⟨q, 1, none⟩ nv) rb rv bs ∧ QAt (w.setCell ⟨q, 1, none⟩ nv) q nv nq ns ∧ Touch w (w.setCell ⟨q, 1, none⟩ nv) q go := by
  refine ⟨hb.lies.kept (fun k hk => heap_setCell_other w _ _ _ (by rintro rfl; exact hrb hk)), ⟨?_, hN.kept (fun k hk => heap_setCell_other w _ _ _ (by rintro rfl; exact hnq hk)), hnq⟩, ⟨rfl, rfl, rfl, by simp [World.setCell], fun k hk hkq _ => heap_setCell_other w _ _ _ hkq⟩⟩
  rw [heap_setCell_same w q 1 _ _ _ hq]; rfl

set_option maxHeartbeats 400000 in
set_option maxRecDepth 100000 in
theorem take_none (w : World) (q : Nat) (qv : Value) (go : Option Nat) (hs : List Value) (rb : Option Nat) (ab : Option Addr) (bs : List Value) (N : Nat) (h : QAt w q qv go hs)
    (hb : FullAt w rb (.slice ab bs.length bs.length) bs) (hrb : rb ≠ some q) (h0 : N = 0 ∨ hs.length = 0) :
    Calls Try.prog 12 #[.pointer (some ⟨q, 0, none⟩), .slice ab bs.length bs.length, .int .i64 N] w fun e w' => e = .returned (.slice ab bs.length bs.length) ∧ Lies w' rb (.slice ab bs.length bs.length) bs ∧
      (∃ nv nq, QAt w' q nv nq hs ∧ (nq = go ∨ nq = none)) ∧ Touch w w' q go := by
  obtain ⟨hq, hown, hne⟩ := h
  have hc1 : w.cell? ⟨q, 1, none⟩ = some qv := by rw [cell_of_row _ _ _ _ _ _ hq]; rfl
  have hf1 := frozen_of_row w q 1 _ _ hq
  have HQ := hid hq
  have HNE := hid hne
  have HRB := hid hrb
  have HB := hid hb.own
  clear hq hne hrb hb
  have HO := hid hown
  rcases hown with ⟨rfl, rfl, rfl⟩ | ⟨g, off, cap, cur, rfl, rfl, hg, hcap, hcs, hx⟩
  · have hmin : (if 0 < N then (0 : Int) else (N : Int)) = 0 := by split <;> omega
    go_enter Try.func12, Try.ntmps12
    go_wp2_with (first | (at_builtin; go_must (refine wpList_append_none rfl _ _ rfl ab bs.length bs.length (Nat.le_refl _) none 0 (by rfl) (by rfl) ?_)) | ((with_reducible show wpList _ _ _ (Oper.mk _ (Op.call { callee := .builtin .clear, args := _, argTypes := _ }) _ _ _ _ :: _) _ _); go_must (refine wpList_clear_none rfl _ rfl none 0 (by rfl) ?_)))
    go_ret
    have := take_fin0 (go := none) HQ.out HB.out HRB.out HO.out HNE.out
    exact ⟨rfl, this.1, ⟨_, _, this.2.1, .inl rfl⟩, this.2.2⟩
  · clear hg hx
    by_cases hl : 0 < hs.length
    · obtain rfl : N = 0 := by omega
      go_enter Try.func12, Try.ntmps12
      go_wp2_with (first | (at_builtin; go_must (refine wpList_append_none rfl _ _ rfl ab bs.length bs.length (Nat.le_refl _) (some ⟨g, off, none⟩) cap (by rfl) (by rfl) ?_)) | ((with_reducible show wpList _ _ _ (Oper.mk _ (Op.call { callee := .builtin .clear, args := _, argTypes := _ }) _ _ _ _ :: _) _ _); go_must (refine wpList_clear_none rfl _ rfl (some ⟨g, off, none⟩) cap (by rfl) ?_)))
      go_ret
      have := take_fin0 (go := some g) HQ.out HB.out HRB.out HO.out HNE.out
      exact ⟨rfl, this.1, ⟨_, _, this.2.1, .inl rfl⟩, this.2.2⟩
    · have hz : hs = [] := List.eq_nil_of_length_eq_zero (by omega)
      subst hz
      simp only [List.length_nil] at *
      have hmin : (if 0 < N then (0 : Int) else (N : Int)) = 0 := by split <;> omega
      by_cases h256 : cap ≤ 256
      · go_enter Try.func12, Try.ntmps12
        go_wp2_with (first | (at_builtin; go_must (refine wpList_append_none rfl _ _ rfl ab bs.length bs.length (Nat.le_refl _) (some ⟨g, off, none⟩) cap (by rfl) (by rfl) ?_)) | ((with_reducible show wpList _ _ _ (Oper.mk _ (Op.call { callee := .builtin .clear, args := _, argTypes := _ }) _ _ _ _ :: _) _ _); go_must (refine wpList_clear_none rfl _ rfl (some ⟨g, off, none⟩) cap (by rfl) ?_)))
        go_ret
        have := take_fin0 (go := some g) HQ.out HB.out HRB.out HO.out HNE.out
        exact ⟨rfl, this.1, ⟨_, _, this.2.1, .inl rfl⟩, this.2.2⟩
      · go_enter Try.func12, Try.ntmps12
        go_wp2_with (first | (at_builtin; go_must (refine wpList_append_none rfl _ _ rfl ab bs.length bs.length (Nat.le_refl _) (some ⟨g, off, none⟩) cap (by rfl) (by rfl) ?_)) | ((with_reducible show wpList _ _ _ (Oper.mk _ (Op.call { callee := .builtin .clear, args := _, argTypes := _ }) _ _ _ _ :: _) _ _); go_must (refine wpList_clear_none rfl _ rfl (some ⟨g, off, none⟩) cap (by rfl) ?_)))
        go_ret
        have := take_fin0 (go := some g) (nv := .slice none 0 0) (nq := none) (ns := []) HQ.out HB.out HRB.out (.inl ⟨rfl, rfl, rfl⟩) (by simp)
        exact ⟨rfl, this.1, ⟨_, _, this.2.1, .inr rfl⟩, this.2.2⟩

/-- Take, whatever is asked for. -/
theorem take_any (w : World) (q : Nat) (qv : Value) (go : Option Nat) (hs : List Value) (rb : Option Nat) (v : Value) (bs : List Value) (n : Int) (h : QAt w q qv go hs)
    (hb : FullAt w rb v bs) (hrb : rb ≠ some q) (hn : 0 ≤ n) (hl : hs.length + bs.length ≤ 4194304) :
    Calls Try.prog 12 #[.pointer (some ⟨q, 0, none⟩), v, .int .i64 n] w fun e w' => ∃ a c r', e = .returned (.slice a (bs ++ hs.take n.toNat).length c) ∧ Lies w' r' (.slice a (bs ++ hs.take n.toNat).length c) (bs ++ hs.take n.toNat) ∧
      (r' = rb ∨ (r' = some w.heap.size ∧ w.heap.size < w'.heap.size)) ∧ (∃ nv nq, QAt w' q nv nq (hs.drop n.toNat) ∧ (nq = go ∨ nq = none)) ∧ Touch w w' q go := by
  obtain ⟨N, rfl⟩ := Int.eq_ofNat_of_zero_le hn
  obtain ⟨ab, rfl⟩ := full_shape hb
  rw [Int.toNat_natCast]
  by_cases h0 : N = 0 ∨ hs.length = 0
  · refine (take_none w q qv go hs rb ab bs N h hb hrb h0).mono ?_
    rintro e w' ⟨rfl, h1, h2, h3⟩
    have e1 : hs.take N = [] := by rcases h0 with h0 | h0; (rw [h0]; rfl); rw [List.eq_nil_of_length_eq_zero h0]; simp
    have e2 : hs.drop N = hs := by rcases h0 with h0 | h0; (rw [h0]; rfl); rw [List.eq_nil_of_length_eq_zero h0]; simp
    rw [e1, e2, List.append_nil]
    exact ⟨_, _, rb, rfl, h1, .inl rfl, h2, h3⟩
  · obtain ⟨hq, hown, hne⟩ := h
    rcases hown with ⟨rfl, rfl, rfl⟩ | ⟨g, off, cap, cur, rfl, rfl, hg, hcap, hcs, hx⟩
    · simp at h0
    · have hgq : g ≠ q := fun e => hne (by rw [e])
      by_cases hlt : N < hs.length
      · refine (take_some w q g off cap hs rb ab bs N cur hq hg hgq hcap hcs hx hb (by omega) hlt hl).mono ?_
        rintro e w' ⟨c, rfl, h1, h2, h3⟩
        have el : (bs ++ hs.take N).length = bs.length + N := by simp; omega
        rw [← el] at h1
        have hsz : w.heap.size < w'.heap.size := by
          rcases h1.lt with h | ⟨k, hk, hlt'⟩
          · omega
          · rw [Option.some.inj hk]; exact hlt'
        exact ⟨_, c, _, by rw [el], h1, .inr ⟨rfl, hsz⟩, h2, h3⟩
      · refine (take_all w q g off cap hs rb ab bs N cur hq hg hgq hcap hcs hx hb (by omega) (by omega) hl).mono ?_
        rintro e w' ⟨c, rfl, h1, h2, h3⟩
        have e1 : hs.take N = hs.take hs.length := by rw [List.take_of_length_le (by omega), List.take_length]
        have e2 : hs.drop N = hs.drop hs.length := by rw [List.drop_of_length_le (by omega), List.drop_length]
        have el : (bs ++ hs.take hs.length).length = bs.length + hs.length := by simp
        rw [← el] at h1
        have hsz : w.heap.size < w'.heap.size := by
          rcases h1.lt with h | ⟨k, hk, hlt'⟩
          · omega
          · rw [Option.some.inj hk]; exact hlt'
        rw [e1, e2]
        exact ⟨_, c, _, by rw [el], h1, .inr ⟨rfl, hsz⟩, h2, h3⟩
end Go.Proofs.Qxb6613772a
