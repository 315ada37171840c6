import Derived.Test.Qxb6613772aClone
import Derived.Deep.Matrix
import Derived.ChangeOld
namespace Go.Proofs.Qxb6613772a
open Go.ChangeShapes Go.WideShapes Go.ChangeAt Go.RowKit Go.Deep
set_option linter.unusedVariables false
set_option linter.constructorNameAsVariable false

theorem own : ownKnob Try.prog.godebug = none := by kernel_rfl
theorem laidOut : laidOutB Try.prog = true := by kernel_rfl

/-- A [][]byte that came in, as the walks read it. -/
theorem open_msgs {H : Type} {enc : TypeId × Value → H} {W : World} {base : Nat} {v : Value} {d : DataW H} {ps : List MemPlace} (hv : Value.okWide Try.prog W .any base 22 v) (h : DataW.Trod enc Try.prog W 0 (fun _ => true) true 22 v d ps) :
    ∃ r hs L, Lies W r v hs ∧ MsgsAt W hs L := by
  obtain ⟨a0, len0, cap0, rfl⟩ := okWide_slice Try.underlying22 hv
  obtain ⟨fuel, hf⟩ := h
  rcases open_int_rows Try.underlying22 Try.underlying29 Try.underlying5 (by kernel_rfl) (by kernel_rfl) hf with ⟨hcs, _⟩ | ⟨a, len, cap, A, L, C, Z, hcs, _, hl, hm, _, hrows⟩
  · simp [Value.cells] at hcs
    obtain ⟨rfl, rfl, rfl⟩ := hcs
    exact ⟨none, [], [], ⟨none, 0, rfl, .inl rfl⟩, MsgsAt.nil _⟩
  · simp [Value.cells] at hcs
    obtain ⟨rfl, rfl, rfl⟩ := hcs
    have hbl : ∀ r, r < cap0 → ((Z r).take (L r)).length = L r := fun r hr => by
      obtain ⟨_, h2, _, h4, _⟩ := hrows r hr
      rw [List.length_take, h4]; omega
    have hmsg : ∀ r, r < cap0 → MsgAt W (.slice (A r) (L r) (C r)) ((Z r).take (L r)) := fun r hr => by
      obtain ⟨_, h2, _, h4, _, h6, h7⟩ := hrows r hr
      have hlen := hbl r hr
      have := MsgAt.mk (w := W) (a := A r) (c := C r) (bs := (Z r).take (L r)) (by
        by_cases h0 : L r = 0
        · left; omega
        · right
          cases hA : A r with
          | none => have := h6 hA; omega
          | some x =>
            obtain ⟨_, hc⟩ := h7 x hA
            obtain ⟨b, off, hx, hcell⟩ := ints_at (k := .u8) (zs := Z r) (fun i hi => hc i (by omega)) (by omega)
            refine ⟨b, off, by rw [hx], fun i hi => ?_⟩
            rw [hcell i (by omega), List.getElem_take]
            have hi' : i < (Z r).length := by omega
            simp [List.getD, List.getElem?_eq_getElem hi'])
      rw [hlen] at this
      exact this
    refine ⟨some a.block, (List.range len0).map fun r => .slice (A r) (L r) (C r), (List.range len0).map fun r => (Z r).take (L r), ⟨some a, cap0, by simp, ?_⟩, by simp, fun i hi => ?_⟩
    · by_cases h0 : len0 = 0
      · left; simp [h0]
      · right
        obtain ⟨b, off, spot⟩ := a
        have hspot : spot = none := by simpa [Addr.add] using World.cell?_spot (hrows 0 (by omega)).1
        subst hspot
        refine ⟨b, off, rfl, rfl, fun i hi => ?_⟩
        have hi' : i < len0 := by simpa using hi
        have := (hrows i (by omega)).1
        rw [add_off] at this
        rw [this]
        simp [hi']
    · have hi' : i < len0 := by simpa using hi
      refine ⟨.slice (A i) (L i) (C i), by simp [hi'], ?_⟩
      simpa using hmsg i (by omega)
end Go.Proofs.Qxb6613772a
