import Derived.Test.Qxb6613813aWalk
import Derived.Deep.RegionWith
namespace Go.Proofs.Qxb6613813a
open Go.RowKit Go.Maps Go.WideMaps
set_option linter.unusedVariables false

theorem law9 : Keyed Try.prog 9 := string_keyed Try.underlying9
theorem zero43 (w : World) : (zeroValue 43).run Try.prog w = .ok (.pointer none) w := by kernel_rfl
theorem zero65 (w : World) : (zeroValue 65).run Try.prog w = .ok (.agg #[.string ByteArray.empty, .int .u64 0, .string ByteArray.empty]) w := by kernel_rfl
/-- An element is read as itself. -/
def heldElem (v : Value) : Option (DataW Value × List MemPlace) := some (.held v, [])
theorem heldElem_inv {v x : Value} {ps : List MemPlace} (h : heldElem v = some (.held x, ps)) : v = x := by
  simp only [heldElem, Option.some.injEq, Prod.mk.injEq, DataW.held.injEq] at h
  exact h.1

/-- The replay in block R: its names, its two maps (specs: bs, empty; proposers: bp, which reads as D). -/
structure RAt (w : World) (R bs bp : Nat) (a : Option Addr) (n c m : Nat) (D : DataW Value) : Prop where
  row : ∃ cur, w.heap[R]? = some (.cells cur 61 (0, 0)) ∧ cur[0]? = some (.slice a n c) ∧ cur[8]? = some (.map (some bs)) ∧ cur[9]? = some (.map (some bp))
  specs : w.ownsMap Try.prog 9 heldElem bs 0 (.map [])
  props : w.ownsMap Try.prog 9 heldElem bp m D
  ne : bs ≠ bp
  short : n ≤ 1048576
theorem RAt.lt {w : World} {R bs bp : Nat} {a : Option Addr} {n c m : Nat} {D : DataW Value} (h : RAt w R bs bp a n c m D) : R < w.heap.size := by
  obtain ⟨cur, hg, _⟩ := h.row
  exact (Array.getElem?_eq_some_iff.1 hg).1
theorem RAt.neR {w : World} {R bs bp : Nat} {a : Option Addr} {n c m : Nat} {D : DataW Value} (h : RAt w R bs bp a n c m D) : bp ≠ R := by
  rintro rfl
  obtain ⟨cur, hg, _⟩ := h.row
  obtain ⟨es, cl, hb, _⟩ := h.props
  rw [hg] at hb
  cases hb
theorem RAt.kept {w w' : World} {R bs bp : Nat} {a : Option Addr} {n c m : Nat} {D : DataW Value} (h : RAt w R bs bp a n c m D) (hb : Below w.heap.size w w') : RAt w' R bs bp a n c m D := by
  obtain ⟨cur, hg, r⟩ := h.row
  refine ⟨⟨cur, (hb.block R h.lt).trans hg, r⟩, ?_, ?_, h.ne, h.short⟩
  · have hlt := h.specs.lt
    obtain ⟨es, cl, h1, h2⟩ := h.specs
    exact ⟨es, cl, (hb.block _ hlt).trans h1, h2⟩
  · have hlt := h.props.lt
    obtain ⟨es, cl, h1, h2⟩ := h.props
    exact ⟨es, cl, (hb.block _ hlt).trans h1, h2⟩

set_option maxHeartbeats 1000000 in
theorem newReplay (w : World) (a : Option Addr) (n c : Nat) (hn : n ≤ 1048576) :
    Calls Try.prog 13 #[.slice a n c] w fun e w' => e = .returned (.pointer (some ⟨w.heap.size + 2, 0, none⟩)) ∧ RAt w' (w.heap.size + 2) w.heap.size (w.heap.size + 1) a n c 0 (.map []) ∧ Below w.heap.size w w' := by
  have hmm := @run_makeMap Try.prog
  go_enter Try.func13, Try.ntmps13
  go_wp2
  go_ret
  have hp : ((w.alloc (.map #[] 0)).alloc (.map #[] 0)).heap.size = w.heap.size + 2 := by simp
  have hp1 : (w.alloc (.map #[] 0)).heap.size = w.heap.size + 1 := by simp
  refine ⟨rfl, ⟨⟨_, by rw [← hp]; exact heap_alloc_new _ _, rfl, rfl, rfl⟩, ((World.ownsMap_made w _ _ _).alloc _).alloc _, ?_, by omega, hn⟩, (((Below.refl _ _).alloc (Nat.le_refl _) _).alloc (by simp) _).alloc (by simp; omega) _⟩
  have := (World.ownsMap_made (w.alloc (.map #[] 0)) Try.prog 9 heldElem)
  rw [hp1] at this
  exact this.alloc _

section
variable {P : Program} (w : World) {ops : Array Oper} {rest : List Oper} {o : Oper} {a : Act} {Q : Exit → Act → World → Prop}
/-- A look-up in an empty map: the zero value. -/
theorem wpList_lookup_empty (hg : o.guard = none) (m x : Operand) (t : TypeId) (hop : o.op = Op.lookup t m x false)
    (k e : TypeId) (K : Keyed P k) (ht : P.underlying t = some (.map k e)) (z : Value) (hz : (zeroValue e).run P w = .ok z w) (b : Nat)
    (hm : a.eval m = .map (some b)) (hown : w.ownsMap P k heldElem b 0 (.map [])) (key : Value) (kl : Lit) (hx : a.eval x = key) (hkey : keyOf P k key = some kl)
    (hK : wpList P ops Q rest (a.put o.dst z) w) :
    wpList P ops Q (o :: rest) a w := by
  refine wpList_plain hg fun K' hK' => ?_
  obtain ⟨v, ps, hrun, hv⟩ := hown.lookup K ht hz (zd := .held z) (zp := []) rfl hkey
  have hvz : v = z := heldElem_inv hv
  subst hvz
  unfold Oper.wp
  simp [execOp, hop, hm, hx, hrun, Result.andThen]
  exact hK' _ _ hK
end

theorem newProposer' (w w0 : World) (o : Obj) (hw : Below w0.heap.size w0 w) (id : Int) (v : ByteArray) (n : Nat) (hn : n ≤ 1048576) :
    Calls Try.prog 20 #[.int .u64 id, .string v, .int .i64 n] w fun e w' => ∃ p, e = .returned (.pointer (some ⟨p, 0, none⟩)) ∧ w0.heap.size ≤ p ∧ PAt w' p ∧ Below w0.heap.size w0 w' := by
  refine (newProposer w id v n hn).mono ?_
  rintro e w' ⟨rfl, h1, h2⟩
  have := hw.size
  exact ⟨_, rfl, by omega, h1, hw.trans (h2.mono this)⟩

set_option maxHeartbeats 1000000 in
theorem start18 (w : World) (R bs bp : Nat) (a : Option Addr) (n c m : Nat) (D : DataW Value) (s : ByteArray) (r : Int) (hs : s.size ≤ maxLen) (hm : m < 100) (h : RAt w R bs bp a n c m D) :
    Calls Try.prog 18 #[.pointer (some ⟨R, 0, none⟩), .string s, .int .u64 r] w fun e w' => e = .returned (.tuple #[]) ∧ ∃ p, w.heap.size ≤ p ∧ p < w'.heap.size ∧ RAt w' R bs bp a n c (m + 1) (D.put (.string s.data.toList) (.held (.pointer (some ⟨p, 0, none⟩)))) ∧ (∀ B, B ≤ bp → B ≤ w.heap.size → Below B w w') ∧ PAt w' p ∧ (∀ k, k < w.heap.size → k ≠ bp → w'.heap[k]? = w.heap[k]?) := by
  have HH := hid h
  have hkey := keyOf_string_mk Try.underlying9 hs
  obtain ⟨cur, hg, h0, h8, h9⟩ := h.row
  have c8 : w.cell? ⟨R, 8, none⟩ = some (.map (some bs)) := (cell_of_row _ _ _ _ _ _ hg).trans h8
  have c0 : w.cell? ⟨R, 0, none⟩ = some (.slice a n c) := (cell_of_row _ _ _ _ _ _ hg).trans h0
  have hlt := h.lt
  have hsp := h.specs
  have HS := hid h.short
  clear hg h0 h8 h9 h
  go_enter Try.func18, Try.ntmps18
  go_upto_region 1 with (at_lookup; refine wpList_lookup_empty _ rfl _ _ 55 rfl 9 65 law9 Try.underlying55 _ (zero65 _) bs rfl hsp _ _ rfl hkey ?_)
  have cA : ∀ o, (w.alloc o).cell? ⟨R, 0, none⟩ = some (.slice a n c) := fun o => cell_later ((Below.refl _ _).alloc (Nat.le_refl _) _) c0
  have HW : Hid (∀ o, Below w.heap.size w (w.alloc o).drew) := fun o => ((Below.refl _ _).alloc (Nat.le_refl _) _).drew
  go_cut [7] (fun t wx => ∃ p, t = .pointer (some ⟨p, 0, none⟩) ∧ w.heap.size ≤ p ∧ PAt wx p ∧ Below w.heap.size w wx)
  case first =>
    go_region_with (go_at_call 20; refine (newProposer' _ w (.map #[] 0) (HW.out _) _ _ n HS.out).mono ?_; rintro e w2 ⟨p, rfl, hp1, hp2, hb2⟩)
    all_goals (go_wp2_with fail; go_meet; exact ⟨_, rfl, by assumption, by assumption, by assumption⟩)
  case rest =>
    obtain ⟨p, rfl, hp1, hp2, hb2⟩ := hcut
    have hR := HH.out.kept hb2
    obtain ⟨cur2, hg2, r0, r8, r9⟩ := hR.row
    have c9 : wc.cell? ⟨R, 9, none⟩ = some (.map (some bp)) := (cell_of_row _ _ _ _ _ _ hg2).trans r9
    have hpR : p ≠ R := by omega
    have hpb : p ≠ bp := by have := HH.out.props.lt; omega
    have hps : p ≠ bs := by have := HH.out.specs.lt; omega
    have hRp := hR.props
    have HR := hid hR
    clear hg2 r0 r8 r9 hR c0 c8 cA
    go_wp2_with (first | (go_at_call 21; refine (Resume _ p r hp2).mono ?_; rintro e w3 ⟨rfl, hp3, hg3⟩; have hRp3 := hRp.kept hg3 (fun e => hpb (Option.some.inj e).symm); have c93 := (World.cell?_of_block (hg3.block R HR.out.lt (fun e => hpR (Option.some.inj e).symm))).trans c9) | (at_mapUpdate; refine wpList_mapUpdate_own _ rfl _ _ _ 56 rfl 9 43 law9 Try.underlying56 heldElem bp m D rfl hRp3 (by unfold maxLen; omega) _ _ _ rfl rfl hkey _ [] rfl ?_; intro w4 hown4 hgr4))
    go_end0
    obtain ⟨cur3, k1, k2⟩ := HR.out.row
    have hlt2 := HR.out.lt
    have n1 := HR.out.neR
    have n2 := HR.out.ne
    refine ⟨rfl, p, hp1, by have := hp3.lt; have := hgr4.size; omega, ⟨⟨cur3, ?_, k2⟩, ?_, hown4, n2, HS.out⟩, fun B hB1 hB2 => ?_, ?_, fun k hk hkb => ?_⟩
    · rw [hgr4.block R (by have := hg3.size; omega) (fun e => n1 (Option.some.inj e).symm), hg3.block R hlt2 (fun e => hpR (Option.some.inj e).symm)]
      exact k1
    · exact (HR.out.specs.kept hg3 (fun e => hps (Option.some.inj e).symm)).kept hgr4 (fun e => n2 (Option.some.inj e))
    · have hbB := hb2.mono hB2
      exact (hbB.grown hg3 (by have := hb2.size; omega) (fun j hj => by cases hj; omega)).grown hgr4 (by have := hb2.size; have := hg3.size; omega) (fun j hj => by cases hj; exact hB1)
    · exact hp3.kept (hgr4.block p hp3.lt (fun e => hpb (Option.some.inj e)))
    · have s1 := hb2.size
      have s3 := hg3.size
      rw [hgr4.block k (by omega) (fun e => hkb (Option.some.inj e)), hg3.block k (by omega) (fun e => by have := Option.some.inj e; omega), hb2.block k hk]

set_option maxHeartbeats 1000000 in
theorem start14 (w : World) (R bs bp : Nat) (a : Option Addr) (n c m : Nat) (D : DataW Value) (s : ByteArray) (r : Int) (hs : s.size ≤ maxLen) (hm : m < 100) (h : RAt w R bs bp a n c m D) :
    Calls Try.prog 14 #[.pointer (some ⟨R, 0, none⟩), .string s, .int .u64 r] w fun e w' => e = .returned (.tuple #[]) ∧ ∃ p, w.heap.size ≤ p ∧ p < w'.heap.size ∧ RAt w' R bs bp a n c (m + 1) (D.put (.string s.data.toList) (.held (.pointer (some ⟨p, 0, none⟩)))) ∧ (∀ B, B ≤ bp → B ≤ w.heap.size → Below B w w') ∧ PAt w' p ∧ (∀ k, k < w.heap.size → k ≠ bp → w'.heap[k]? = w.heap[k]?) := by
  go_enter Try.func14, Try.ntmps14
  go_wp2_with (go_at_call 18; refine (start18 _ R bs bp a n c m D s r hs hm h).mono ?_; rintro e w2 ⟨rfl, p, h1, h1', h2, h3, h4, h5⟩)
  go_end0
  exact ⟨rfl, p, h1, h1', h2, h3, h4, h5⟩

set_option maxHeartbeats 1000000 in
theorem prop15 (w : World) (R bs bp : Nat) (a : Option Addr) (n c m : Nat) (D : DataW Value) (s : ByteArray) (hs : s.size ≤ maxLen) (h : RAt w R bs bp a n c m D) (x : Value) (hx : D.atKey (.string s.data.toList) (.held (.pointer none)) = .held x) (hb : Maps.has D (.string s.data.toList) = true) :
    Calls Try.prog 15 #[.pointer (some ⟨R, 0, none⟩), .string s] w fun e w' => e = .returned (.tuple #[x, .bool true]) ∧ w' = w := by
  have hkey := keyOf_string_mk Try.underlying9 hs
  obtain ⟨cur, hg, h0, h8, h9⟩ := h.row
  have c9 : w.cell? ⟨R, 9, none⟩ = some (.map (some bp)) := (cell_of_row _ _ _ _ _ _ hg).trans h9
  obtain ⟨v, ps, hrun, hv⟩ := h.props.look_ok law9 Try.underlying56 (zero43 w) (zd := .held (.pointer none)) (zp := []) rfl hkey
  rw [hx] at hv
  have hvx : v = x := heldElem_inv hv
  subst hvx
  rw [hb] at hrun
  clear hg h0 h8 h9 hv hx hb
  go_enter Try.func15, Try.ntmps15
  go_wp2
  go_ret2
  exact ⟨rfl, rfl⟩

set_option maxHeartbeats 1000000 in
theorem count16 (w : World) (R bs bp : Nat) (a : Option Addr) (n c m : Nat) (D : DataW Value) (h : RAt w R bs bp a n c m D) :
    Calls Try.prog 16 #[.pointer (some ⟨R, 0, none⟩)] w fun e w' => e = .returned (.int .i64 (Maps.size D)) ∧ w' = w := by
  obtain ⟨cur, hg, h0, h8, h9⟩ := h.row
  have c9 : w.cell? ⟨R, 9, none⟩ = some (.map (some bp)) := (cell_of_row _ _ _ _ _ _ hg).trans h9
  have hp := h.props
  clear hg h0 h8 h9
  go_enter Try.func16, Try.ntmps16
  go_wp2_with (at_len; refine wpList_len_own _ rfl _ 56 rfl 9 43 Try.underlying56 heldElem bp m D rfl hp ?_)
  go_ret
  exact ⟨rfl, rfl⟩

end Go.Proofs.Qxb6613813a
