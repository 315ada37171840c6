/-
  The proof of Rows.FnReachedByFromCutAndOwnLevelSaid: the frame is the guide's template at this function (slices, arrays and integers); the walk lies in the text that is imported.
-/
import Derived.Test.Qxb6613041aRows
import Derived.Test.Qxb6613041aLaw4
import Derived.ShutString
import Derived.ChangeOld
namespace Go.Proofs.Qxb6613041a.fnReachedByFromCutAndOwnLevel
open Go.ChangeShapes Go.WideShapes Go.ChangeAt Go.RowKit
set_option linter.unusedVariables false
set_option linter.constructorNameAsVariable false

theorem own : ownKnob Try.prog.godebug = none := by kernel_rfl
theorem laidOut : laidOutB Try.prog = true := by kernel_rfl

/-- A slice of bytes that came in, as the walk reads it. -/
theorem reads_of {k : IntKind} {W : World} {x : Addr} {len : Nat} {zs : List Int} (hk : k = .u8) (hl : len ≤ zs.length) (hc : ∀ i, i < zs.length → W.cell? (x.add i) = some (.int k (zs.getD i 0))) : Reads W (some x) len (fun i => zs.getD i 0) := by
  subst hk
  by_cases h0 : len = 0
  · exact .inl h0
  · obtain ⟨b, off, rfl, h⟩ := ints_at hc (by omega)
    exact .inr ⟨b, off, rfl, fun i hi => h i (by omega)⟩
/-- The number in a cell. -/
def numAt (cs : List Value) (i : Nat) : Int := match cs[i]? with | some (.int _ a) => a | _ => 0
/-- An array of bytes, by value: its cells. -/
theorem open_row {H : Type} {enc : TypeId × Value → H} {W : World} {b : Nat} {sp : Nat → Bool} {held : Bool} {t : TypeId} {n : Nat} {v : Value} {d : DataW H} {ps : List MemPlace} {base : Nat} (ht : Try.prog.underlying t = some (.array n 5)) (hn : Try.prog.cellsOf t = n) (hv : Value.okWide Try.prog W .any base t v)
    (h : DataW.Trod enc Try.prog W b sp held t v d ps) : ∃ cs : List Value, v = .agg cs.toArray ∧ cs.length = n ∧ ∀ i, i < n → cs[i]? = some (.int .u8 (numAt cs i)) := by
  simp only [Value.okWide, ht] at hv
  obtain ⟨⟨cs⟩, rfl, hsz, _⟩ := hv
  have hsz' : cs.length = n := by rw [← hn, ← hsz]; simp
  refine ⟨cs, rfl, hsz', fun i hi => ?_⟩
  obtain ⟨fuel, hf⟩ := h
  obtain ⟨xs, m, _, _, _, hxl, hall⟩ := DataW.trod_array ht hf
  have h1 := hall i hi
  rw [List.getElem?_eq_getElem (by omega)] at h1
  obtain ⟨a, ha, _, _⟩ := DataW.trod_int Try.underlying5 h1
  have hc5 : Try.prog.cellsOf 5 = 1 := by kernel_rfl
  rw [hc5] at ha
  simp only [Value.cells, Nat.mul_one] at ha
  have h2 : cs[i]? = some (.int .u8 a) := by
    have := congrArg (fun l => l[0]?) ha
    simpa [List.getElem?_take, List.getElem?_drop] using this
  rw [h2, numAt, h2]

/-! ### THE ROW's STEP -/
set_option maxRecDepth 100000 in
set_option maxHeartbeats 1000000 in
theorem lifted (os : Os) (started : os.Started) (H : Type) (enc : TypeId × Value → H) :
    ReturnsInHanded {} Try.checked os 4 .any (Rows.fnReachedByFromCutAndOwnLevelSpec.pre6 enc Try.prog Try.f4 Rows.fnReachedByFromCutAndOwnLevelRow.domain false) (Rows.fnReachedByFromCutAndOwnLevelSpec.post enc Try.prog Try.f4 false true false false) := by
  refine returnsInHanded_of_change (C := Try.checked) own started (by kernel_rfl) Try.func4
    (ChangeSpec.witness6 (enc := enc) (C := Try.checked) false ⟨#[], #[.slice none 0 0, .int .u16 0, .slice none 0 0, .agg #[.int .u8 0, .int .u8 0, .int .u8 0, .int .u8 0, .int .u8 0, .int .u8 0, .int .u8 0, .int .u8 0, .int .u8 0, .int .u8 0, .int .u8 0, .int .u8 0, .int .u8 0, .int .u8 0, .int .u8 0, .int .u8 0], .agg #[.int .u8 0, .int .u8 0, .int .u8 0, .int .u8 0, .int .u8 0, .int .u8 0, .int .u8 0, .int .u8 0, .int .u8 0, .int .u8 0, .int .u8 0, .int .u8 0, .int .u8 0, .int .u8 0, .int .u8 0, .int .u8 0], .int .u16 0, .agg #[.int .u8 0, .int .u8 0], .agg #[.int .u8 0, .int .u8 0, .int .u8 0, .int .u8 0, .int .u8 0, .int .u8 0], .int .i64 0, .int .i64 0], []⟩ 8 (by kernel_rfl) (by kernel_rfl) (by kernel_rfl) (by kernel_rfl)) ?_
  intro W base args ds gs before hval0 hW hcnd _
  have hval : ∀ (j : Nat) t v, Try.f4.params[j]? = some t → args[j]? = some v → Value.okWide Try.prog W .any base t v := hval0
  have hW' := hW
  obtain ⟨p, q, hA0, hV, rfl, hfz, hnd⟩ := hW
  have hA : DataW.TrodAll enc Try.prog W 0 (fun _ => true) true Try.f4.params.toList args.toList ds p := hA0
  rw [Try.params4] at hA hval
  obtain ⟨v0, vs0, d0, ds0, p0, q0, hargs, rfl, rfl, h0, r0⟩ := trodAll_cons hA
  obtain ⟨v1, vs1, d1, ds1, p1, q1, rfl, rfl, rfl, h1, r1⟩ := trodAll_cons r0
  obtain ⟨v2, vs2, d2, ds2, p2, q2, rfl, rfl, rfl, h2, r2⟩ := trodAll_cons r1
  obtain ⟨v3, vs3, d3, ds3, p3, q3, rfl, rfl, rfl, h3, r3⟩ := trodAll_cons r2
  obtain ⟨v4, vs4, d4, ds4, p4, q4, rfl, rfl, rfl, h4, r4⟩ := trodAll_cons r3
  obtain ⟨v5, vs5, d5, ds5, p5, q5, rfl, rfl, rfl, h5, r5⟩ := trodAll_cons r4
  obtain ⟨v6, vs6, d6, ds6, p6, q6, rfl, rfl, rfl, h6, r6⟩ := trodAll_cons r5
  obtain ⟨v7, vs7, d7, ds7, p7, q7, rfl, rfl, rfl, h7, r7⟩ := trodAll_cons r6
  obtain ⟨v8, vs8, d8, ds8, p8, q8, rfl, rfl, rfl, h8, r8⟩ := trodAll_cons r7
  obtain ⟨v9, vs9, d9, ds9, p9, q9, rfl, rfl, rfl, h9, r9⟩ := trodAll_cons r8
  obtain ⟨rfl, rfl, rfl⟩ := trodAll_nil r9
  obtain rfl : args = #[v0, v1, v2, v3, v4, v5, v6, v7, v8, v9] := by cases args; simp_all
  obtain ⟨rfl, rfl⟩ := trodVars_none hV
  obtain ⟨a0, len0, cap0, rfl⟩ := okWide_slice Try.underlying22 (hval 0 22 v0 rfl rfl)
  have k0 := h0
  have lt0 : ∀ x ∈ p0, x.block < W.heap.size := by obtain ⟨m, hm⟩ := k0; exact DataW.trod_lt m _ _ _ hm
  obtain ⟨z0, w0⟩ : ∃ zs : Nat → Int, Reads W a0 len0 zs := by
    obtain ⟨fuel, hf⟩ := h0
    rcases open_ints Try.underlying22 Try.underlying5 (by kernel_rfl) hf with ⟨hcs, _⟩ | ⟨x, l, c, zs, hcs, _, hl, hm, hz, _, hcell, hwz⟩
    · simp [Value.cells] at hcs
      obtain ⟨rfl, rfl, rfl⟩ := hcs
      exact ⟨fun _ => 0, .inl rfl⟩
    · simp [Value.cells] at hcs
      obtain ⟨rfl, rfl, rfl⟩ := hcs
      exact ⟨_, reads_of rfl (by rw [hz]; exact hl) hcell⟩
  obtain ⟨a1, rfl, rfl, rfl, w1⟩ := open_int Try.underlying23 (hval 1 23 v1 rfl rfl) h1
  obtain ⟨a2, len2, cap2, rfl⟩ := okWide_slice Try.underlying22 (hval 2 22 v2 rfl rfl)
  have k2 := h2
  have lt2 : ∀ x ∈ p2, x.block < W.heap.size := by obtain ⟨m, hm⟩ := k2; exact DataW.trod_lt m _ _ _ hm
  obtain ⟨z2, w2⟩ : ∃ zs : Nat → Int, Reads W a2 len2 zs := by
    obtain ⟨fuel, hf⟩ := h2
    rcases open_ints Try.underlying22 Try.underlying5 (by kernel_rfl) hf with ⟨hcs, _⟩ | ⟨x, l, c, zs, hcs, _, hl, hm, hz, _, hcell, hwz⟩
    · simp [Value.cells] at hcs
      obtain ⟨rfl, rfl, rfl⟩ := hcs
      exact ⟨fun _ => 0, .inl rfl⟩
    · simp [Value.cells] at hcs
      obtain ⟨rfl, rfl, rfl⟩ := hcs
      exact ⟨_, reads_of rfl (by rw [hz]; exact hl) hcell⟩
  have k3 := h3
  have lt3 : ∀ x ∈ p3, x.block < W.heap.size := by obtain ⟨m, hm⟩ := k3; exact DataW.trod_lt m _ _ _ hm
  obtain ⟨c3, rfl, l3, w3⟩ := open_row Try.underlying24 (by kernel_rfl) (hval 3 24 v3 rfl rfl) h3
  have k4 := h4
  have lt4 : ∀ x ∈ p4, x.block < W.heap.size := by obtain ⟨m, hm⟩ := k4; exact DataW.trod_lt m _ _ _ hm
  obtain ⟨c4, rfl, l4, w4⟩ := open_row Try.underlying24 (by kernel_rfl) (hval 4 24 v4 rfl rfl) h4
  obtain ⟨a5, rfl, rfl, rfl, w5⟩ := open_int Try.underlying23 (hval 5 23 v5 rfl rfl) h5
  have k6 := h6
  have lt6 : ∀ x ∈ p6, x.block < W.heap.size := by obtain ⟨m, hm⟩ := k6; exact DataW.trod_lt m _ _ _ hm
  obtain ⟨c6, rfl, l6, w6⟩ := open_row Try.underlying25 (by kernel_rfl) (hval 6 25 v6 rfl rfl) h6
  have k7 := h7
  have lt7 : ∀ x ∈ p7, x.block < W.heap.size := by obtain ⟨m, hm⟩ := k7; exact DataW.trod_lt m _ _ _ hm
  obtain ⟨c7, rfl, l7, w7⟩ := open_row Try.underlying26 (by kernel_rfl) (hval 7 26 v7 rfl rfl) h7
  obtain ⟨a8, rfl, rfl, rfl, w8⟩ := open_int Try.underlying3 (hval 8 3 v8 rfl rfl) h8
  obtain ⟨a9, rfl, rfl, rfl, w9⟩ := open_int Try.underlying3 (hval 9 3 v9 rfl rfl) h9
  clear hA0 hval0
  refine (law4 W a0 a2 len0 cap0 len2 cap2 a1 a5 a8 a9 z0 z2 (numAt c3) (numAt c4) c3 c4 c6 c7 l3 l4 l6 l7 w0 w2 w3 w4).mono fun e W' ⟨he, bel⟩ => ?_
  subst he
  exact ⟨_, rfl, _, _, _, [], _, [], hW', trodAll_mk1 (shut_bool Try.underlying4 _), (trodAll_cons_mk (Below.trod laidOut (by kernel_rfl) (of_decide_eq_true (by kernel_rfl)) k0 bel lt0) (trodAll_cons_mk (shut_int Try.underlying23 w1) (trodAll_cons_mk (Below.trod laidOut (by kernel_rfl) (of_decide_eq_true (by kernel_rfl)) k2 bel lt2) (trodAll_cons_mk (Below.trod laidOut (by kernel_rfl) (of_decide_eq_true (by kernel_rfl)) k3 bel lt3) (trodAll_cons_mk (Below.trod laidOut (by kernel_rfl) (of_decide_eq_true (by kernel_rfl)) k4 bel lt4) (trodAll_cons_mk (shut_int Try.underlying23 w5) (trodAll_cons_mk (Below.trod laidOut (by kernel_rfl) (of_decide_eq_true (by kernel_rfl)) k6 bel lt6) (trodAll_cons_mk (Below.trod laidOut (by kernel_rfl) (of_decide_eq_true (by kernel_rfl)) k7 bel lt7) (trodAll_cons_mk (shut_int Try.underlying3 w8) (trodAll_cons_mk (shut_int Try.underlying3 w9) trodAll_mk0)))))))))), rfl, bel.frame _, fun h => by cases h⟩

theorem over : Rows.fnReachedByFromCutAndOwnLevelRow.holds Try.pinned (OpenSpec.ofChange Rows.fnReachedByFromCutAndOwnLevelSpec) :=
  OpenClaim.holds_of_wide 4 Try.f4 rfl rfl rfl rfl rfl rfl rfl ⟨rfl, rfl, rfl, rfl, rfl⟩ rfl rfl rfl rfl rfl (by kernel_rfl) Try.func4 (by kernel_rfl)
    (of_decide_eq_true (by kernel_rfl)) (by unfold Func.isWrapper; first | (rw [if_pos (by decide +kernel)]; kernel_rfl) | (rw [if_neg (by decide +kernel)]; exact ⟨rfl, rfl⟩))
    (fun os started H enc _ => lifted os started H enc)
end Go.Proofs.Qxb6613041a.fnReachedByFromCutAndOwnLevel

namespace Go.Proofs.Qxb6613041a
theorem fnReachedByFromCutAndOwnLevel_proved : Rows.FnReachedByFromCutAndOwnLevelSaid := fnReachedByFromCutAndOwnLevel.over
end Go.Proofs.Qxb6613041a
