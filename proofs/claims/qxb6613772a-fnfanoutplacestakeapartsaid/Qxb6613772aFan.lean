import Derived.Test.Qxb6613772aMsgs
import Derived.Laws.BitsAllLaws
namespace Go.Proofs.Qxb6613772a
open Go.RowKit
set_option linter.unusedVariables false

theorem below_drewN {B : Nat} {a w : World} (h : Below B a w) (n : Nat) : Below B a (w.drewN n) := ⟨h.os, h.tape, h.output, h.size, h.block⟩
theorem grown_refl (w : World) (r : Option Nat) : w.grownBy w r := ⟨rfl, rfl, rfl, Nat.le_refl _, fun _ _ _ => rfl⟩
/-! ### A row of bytes with room -/
/-- Block g is a row of cap bytes; the first are xs. -/
def Row (w : World) (g cap : Nat) (xs : List Int) : Prop :=
  ∃ cur, w.heap[g]? = some (.cells cur 5 (0, 0)) ∧ cur.size = cap ∧ xs.length ≤ cap ∧ ∀ i (h : i < xs.length), cur[i]? = some (.int .u8 xs[i])
theorem Row.kept {w w' : World} {g cap : Nat} {xs : List Int} (h : Row w g cap xs) (hb : w'.heap[g]? = w.heap[g]?) : Row w' g cap xs := by
  obtain ⟨cur, h1, h2⟩ := h; exact ⟨cur, hb.trans h1, h2⟩
theorem Row.lt {w : World} {g cap : Nat} {xs : List Int} (h : Row w g cap xs) : g < w.heap.size := by
  obtain ⟨cur, h1, _⟩ := h; exact (Array.getElem?_eq_some_iff.1 h1).1
theorem Row.le {w : World} {g cap : Nat} {xs : List Int} (h : Row w g cap xs) : xs.length ≤ cap := by
  obtain ⟨cur, _, _, h3, _⟩ := h; exact h3
theorem Row.cell {w : World} {g cap : Nat} {xs : List Int} (h : Row w g cap xs) (i : Nat) (hi : i < xs.length) : w.cell? ⟨g, i, none⟩ = some (.int .u8 xs[i]) := by
  obtain ⟨cur, h1, h2, h3, h4⟩ := h; exact (cell_of_row _ _ _ _ _ _ h1).trans (h4 i hi)
/-- A part of it is a message. -/
theorem Row.part {w : World} {g cap : Nat} {xs : List Int} (h : Row w g cap xs) (A m C : List Int) (hx : xs = A ++ m ++ C) (c : Nat) : MsgAt w (.slice (some ⟨g, A.length, none⟩) m.length c) m := by
  refine MsgAt.mk (.inr ⟨g, A.length, rfl, fun i hi => ?_⟩)
  subst hx
  rw [h.cell (A.length + i) (by simp; omega)]
  simp only [Option.some.injEq, Value.int.injEq, true_and]
  rw [List.getElem_append_left (by simp; omega), List.getElem_append_right (by omega)]
  congr 1
  omega
theorem room_at (cur : Array Value) (n cap : Nat) (xs : List Int) (news : List Int) (hcs : cur.size = cap) (hroom : xs.length + news.length ≤ cap) (hx : ∀ i (h : i < xs.length), cur[i]? = some (.int .u8 xs[i])) :
    ∀ i (h : i < (xs ++ news).length), (cur.toList.take xs.length ++ bytesV news ++ cur.toList.drop (xs.length + (bytesV news).length)).toArray[i]? = some (.int .u8 (xs ++ news)[i]) := by
  intro i h
  simp only [List.length_append] at h
  simp only [List.getElem?_toArray]
  by_cases e1 : i < xs.length
  · rw [List.append_assoc, List.getElem?_append_left (by simp; omega), List.getElem?_take, if_pos e1, List.getElem_append_left e1]
    have := hx i e1
    simpa using this
  · rw [List.append_assoc, List.getElem?_append_right (by simp; omega), List.getElem?_append_left (by simp [bytesV]; omega), List.getElem_append_right (by omega)]
    have e2 : i - (List.take xs.length cur.toList).length = i - xs.length := by simp; omega
    rw [e2, bytesV_at _ _ (by omega)]

/-- append of bytes where there is room. -/
theorem run_append_room (w : World) (ty : TypeId) (g cap : Nat) (xs news : List Int) (v : Value) (h : Row w g cap xs) (hv : MsgAt w v news) (hroom : xs.length + news.length ≤ cap) :
    ∃ w', (Builtin.append_ #[29, 29] ty #[.slice (some ⟨g, 0, none⟩) xs.length cap, v]).run Try.prog w = .ok (.slice (some ⟨g, 0, none⟩) (xs ++ news).length cap) w' ∧ Row w' g cap (xs ++ news) ∧ w.grownBy w' (some g) ∧ w'.heap.size = w.heap.size := by
  obtain ⟨i, hi, hz0, hz1, hz2⟩ := info_parts info5
  obtain ⟨a, c, rfl, hc⟩ := hv.open
  by_cases h0 : news.length = 0
  · obtain rfl := List.eq_nil_of_length_eq_zero h0
    refine ⟨w, ?_, by rw [List.append_nil]; exact h, grown_refl _ _, rfl⟩
    rw [List.append_nil]
    exact run_append_zero w 29 ty 5 i Try.underlying29 hi _ _ _ h.le a c
  · obtain ⟨b, o, rfl, hcell⟩ : ∃ b o, a = some ⟨b, o, none⟩ ∧ ∀ i (hi : i < news.length), w.cell? ⟨b, o + i, none⟩ = some (.int .u8 news[i]) := hc.resolve_left h0
    obtain ⟨cur, hg, hcs, hle, hx⟩ := h
    have h1 : ∀ u ∈ bytesV news, u.oneCell' = true := fun u hu => by
      obtain ⟨y, _, rfl⟩ := List.mem_map.1 hu
      rfl
    have hnews : ∀ j u, (bytesV news)[j]? = some u → w.cell? ((⟨b, o, none⟩ : Addr).add j) = some u := fun j u hu => by
      have hj : j < news.length := by have := (List.getElem?_eq_some_iff.1 hu).1; simpa [bytesV] using this
      rw [bytesV_at _ _ hj] at hu
      rw [add_off, hcell j hj, hu]
    have hst := run_storeCells_at Try.prog g xs.length 5 (bytesV news) 0 cur w hg (by rw [bytesV_len]; omega) h1
    simp only [Nat.add_zero] at hst
    have hf := run_firstCells_some (P := Try.prog) w i.size news.length ⟨b, o, none⟩ news.length c (bytesV news) (by rw [hz1, bytesV_len, Nat.mul_one]) hnews
    refine ⟨w.setRow g (cur.toList.take xs.length ++ bytesV news ++ cur.toList.drop (xs.length + (bytesV news).length)).toArray, ?_, ⟨_, setRow_heap w g cur _ 5 _ hg, ?_, by simp; omega, room_at cur 0 cap xs news hcs hroom hx⟩, ⟨rfl, rfl, rfl, by simp, fun k _ hk => setRow_other w g k _ (fun e => hk (by rw [e]))⟩, by simp⟩
    · simp only [hz1] at hf
      simp [Builtin.append_, run_underlying Try.underlying29, sizeOf, typeInfo, hi, Builtin.lenOf, hroom, hz1, hf, add_off, hst]
    · simp only [List.size_toArray, List.length_append, List.length_take, List.length_drop, Array.length_toList, bytesV_len]
      omega
theorem wpList_append_room (w : World) {ops : Array Oper} {rest : List Oper} {o : Oper} {a : Act} {Q : Exit → Act → World → Prop} (hgd : o.guard = none) (s x : Operand)
    (ho : o.op = .call { callee := .builtin .append, args := #[s, x], argTypes := #[29, 29] }) (g cap : Nat) (xs news : List Int) (v : Value) (hs : a.eval s = .slice (some ⟨g, 0, none⟩) xs.length cap) (hx : a.eval x = v) (h : Row w g cap xs) (hv : MsgAt w v news) (hroom : xs.length + news.length ≤ cap)
    (hK : ∀ w', Row w' g cap (xs ++ news) → w.grownBy w' (some g) → w'.heap.size = w.heap.size → wpList Try.prog ops Q rest (a.put o.dst (.slice (some ⟨g, 0, none⟩) (xs ++ news).length cap)) w') :
    wpList Try.prog ops Q (o :: rest) a w := by
  obtain ⟨w', hr, h1, h2, h3⟩ := run_append_room w o.type g cap xs news v h hv hroom
  exact wpList_append_run hgd s x 29 ho _ _ hs hx _ w' hr (hK w' h1 h2 h3)

/-! ### Two length bytes -/
def hiB (n : Nat) : Int := ((n / 256 : Nat) : Int)
def loB (n : Nat) : Int := ((n % 256 : Nat) : Int)

set_option maxHeartbeats 400000 in
theorem append16 (w : World) (g cap : Nat) (xs : List Int) (n : Nat) (hn : n < 65536) (h : Row w g cap xs) (hroom : xs.length + 2 ≤ cap) :
    Calls Try.prog 40 #[.agg #[], .slice (some ⟨g, 0, none⟩) xs.length cap, .int .u16 n] w fun e w' => e = .returned (.slice (some ⟨g, 0, none⟩) (xs ++ [hiB n, loB n]).length cap) ∧ Row w' g cap (xs ++ [hiB n, loB n]) ∧ w.grownBy w' (some g) := by
  have hlt := h.lt
  have hR : ∀ o1 o2, Row ((w.alloc o1).alloc o2) g cap xs := fun o1 o2 => h.kept (by rw [Below.heap_alloc _ _ _ (by simp; omega), Below.heap_alloc _ _ _ hlt])
  have hM : ∀ o1, MsgAt ((w.alloc o1).alloc (.cells #[.int .u8 ((n : Int) / 256), .int .u8 ((n : Int) % 256)] 5)) (.slice (some ⟨w.heap.size + 1, 0, none⟩) 2 2) [hiB n, loB n] := fun o1 => by
    have hs1 : (w.alloc o1).heap.size = w.heap.size + 1 := by simp
    have hb := heap_alloc_new (w.alloc o1) (.cells #[.int .u8 ((n : Int) / 256), .int .u8 ((n : Int) % 256)] 5)
    rw [hs1] at hb
    refine MsgAt.mk (a := some ⟨w.heap.size + 1, 0, none⟩) (c := 2) (bs := [hiB n, loB n]) (.inr ⟨_, _, rfl, fun i hi => ?_⟩)
    rw [cell_of_row _ _ _ _ _ _ hb]
    match i, hi with
    | 0, _ => simp [hiB]
    | 1, _ => simp [loB]
  have hr2 : xs.length + [hiB n, loB n].length ≤ cap := hroom
  have HR := hid hR
  have HM := hid hM
  clear hR hM
  go_enter Try.func40, Try.ntmps40
  go_wp2_with (at_builtin; go_must (refine wpList_append_room _ rfl _ _ rfl g cap xs [hiB n, loB n] _ (by rfl) (by rfl) (HR.out _ _) (HM.out _) hr2 ?_); intro w2 hrow2 hgr2 hsz2)
  go_ret
  refine ⟨by rw [List.length_append]; rfl, hrow2, ?_⟩
  have g1 := (World.grownBy_alloc w (.cells #[] 66) (some g)).trans (World.grownBy_alloc (w.alloc (.cells #[] 66)) (.cells #[.int .u8 ((n : Int) / 256), .int .u8 ((n : Int) % 256)] 5) (some g))
  exact g1.trans hgr2

theorem or16 (n : Nat) (hn : n < 65536) : bits BinOp.or IntKind.u16 (loB n) (hiB n * 256) = (n : Int) := by
  have e : hiB n * 256 = ((n / 256 * 256 : Nat) : Int) := by unfold hiB; omega
  rw [e]
  unfold loB
  rw [u16_or_nat (n % 256) (n / 256 * 256) (by omega) (by omega), Nat.or_comm]
  have h4 := Nat.two_pow_add_eq_or_of_lt (i := 8) (b := n % 256) (by omega) (n / 256)
  rw [show n / 256 * 256 = 2 ^ 8 * (n / 256) by omega, ← h4]
  omega

set_option maxHeartbeats 400000 in
theorem uint16 (w : World) (v : Value) (n : Nat) (hn : n < 65536) (rest : List Int) (hv : MsgAt w v (hiB n :: loB n :: rest)) :
    Calls Try.prog 46 #[.agg #[], v] w fun e w' => e = .returned (.int .u16 n) ∧ Below w.heap.size w w' := by
  obtain ⟨a, c, rfl, hc⟩ := hv.open
  obtain ⟨b, o, rfl, hcell⟩ := hc.resolve_left (by simp)
  have c0 := hcell 0 (by simp)
  have c1 := hcell 1 (by simp)
  simp only [Nat.add_zero, List.getElem_cons_zero, List.getElem_cons_succ, List.length_cons] at c0 c1 ⊢
  have d0 : ∀ o1, (w.alloc o1).cell? ⟨b, o, none⟩ = some (.int .u8 (hiB n)) := fun o1 => cell_later ((Below.refl _ _).alloc (Nat.le_refl _) _) c0
  have d1 : ∀ o1, (w.alloc o1).cell? ⟨b, o + 1, none⟩ = some (.int .u8 (loB n)) := fun o1 => cell_later ((Below.refl _ _).alloc (Nat.le_refl _) _) c1
  clear hcell hc hv
  have r0 : 0 ≤ hiB n := by unfold hiB; omega
  have r1 : hiB n < 256 := by unfold hiB; omega
  have r2 : 0 ≤ loB n := by unfold loB; omega
  have r3 : loB n < 256 := by unfold loB; omega
  go_enter Try.func46, Try.ntmps46
  go_wp2
  have hor := or16 n hn
  go_quiet (fail)
  go_wp2
  go_ret
  exact ⟨rfl, below_drewN ((Below.refl _ _).alloc (Nat.le_refl _) _) _⟩

end Go.Proofs.Qxb6613772a
