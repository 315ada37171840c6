/-
  The proof of Rows.FnQueuePutUnlessKeepsFirstOfEachSaid: the frame is the guide's template at this function; the walk lies in the text that is imported.
-/
import Derived.Test.Qxb6613772aLawB
import Derived.Test.Qxb6613772aOpenOk
import Derived.ShutString
namespace Go.Proofs.Qxb6613772a.fnQueuePutUnlessKeepsFirstOfEach
open Go.ChangeShapes Go.WideShapes Go.ChangeAt Go.RowKit
set_option linter.unusedVariables false
set_option linter.constructorNameAsVariable false

set_option maxRecDepth 100000 in
set_option maxHeartbeats 1000000 in
theorem lifted (os : Os) (started : os.Started) (H : Type) (enc : TypeId × Value → H) :
    ReturnsInHanded {} Try.checked os 4 .any (Rows.fnQueuePutUnlessKeepsFirstOfEachSpec.pre6 enc Try.prog Try.f4 Rows.fnQueuePutUnlessKeepsFirstOfEachRow.domain false) (Rows.fnQueuePutUnlessKeepsFirstOfEachSpec.post enc Try.prog Try.f4 false true false false) := by
  refine returnsInHanded_of_change (C := Try.checked) own started (by kernel_rfl) Try.func4
    (ChangeSpec.witness6 (enc := enc) (C := Try.checked) false ⟨#[], #[.slice none 0 0], []⟩ 8 (by kernel_rfl) (by kernel_rfl) (by kernel_rfl) (by kernel_rfl)) ?_
  intro W base args ds gs before hval0 hW hcnd _
  have hval : ∀ (j : Nat) t v, Try.f4.params[j]? = some t → args[j]? = some v → Value.okWide Try.prog W .any base t v := hval0
  have hW' := hW
  obtain ⟨p, q, hA0, hV, rfl, hfz, hnd⟩ := hW
  have hA : DataW.TrodAll enc Try.prog W 0 (fun _ => true) true Try.f4.params.toList args.toList ds p := hA0
  rw [Try.params4] at hA hval
  obtain ⟨v0, vs0, d0, ds0, p0, q0, hargs, rfl, rfl, h0, r0⟩ := trodAll_cons hA
  obtain ⟨rfl, rfl, rfl⟩ := trodAll_nil r0
  obtain rfl : args = #[v0] := by cases args; simp_all
  obtain ⟨rfl, rfl⟩ := trodVars_none hV
  have k0 := h0
  have lt0 : ∀ x ∈ p0, x.block < W.heap.size := by obtain ⟨m, hm⟩ := k0; exact DataW.trod_lt m _ _ _ hm
  obtain ⟨g0, hs0, L0, l0, w0, o0⟩ := open_msgs_ok (hval 0 22 v0 rfl rfl) h0
  clear hA0 hval0
  refine (lawB_main W g0 v0 hs0 L0 l0 w0 o0).mono fun e W' ⟨he, bel⟩ => ?_
  subst he
  exact ⟨_, rfl, _, _, _, [], _, [], hW', trodAll_mk1 (shut_bool Try.underlying4 _), (trodAll_cons_mk (Below.trod laidOut (by kernel_rfl) (of_decide_eq_true (by kernel_rfl)) k0 bel lt0) trodAll_mk0), rfl, bel.frame _, fun h => by cases h⟩

theorem over : Rows.fnQueuePutUnlessKeepsFirstOfEachRow.holds Try.pinned (OpenSpec.ofChange Rows.fnQueuePutUnlessKeepsFirstOfEachSpec) :=
  OpenClaim.holds_of_wide 4 Try.f4 rfl rfl rfl rfl rfl rfl rfl ⟨rfl, rfl, rfl, rfl, rfl⟩ rfl rfl rfl rfl rfl (by kernel_rfl) Try.func4 (by kernel_rfl)
    (of_decide_eq_true (by kernel_rfl)) (by unfold Func.isWrapper; first | (rw [if_pos (by decide +kernel)]; kernel_rfl) | (rw [if_neg (by decide +kernel)]; exact ⟨rfl, rfl⟩))
    (fun os started H enc _ => lifted os started H enc)
end Go.Proofs.Qxb6613772a.fnQueuePutUnlessKeepsFirstOfEach

namespace Go.Proofs.Qxb6613772a
theorem fnQueuePutUnlessKeepsFirstOfEach_proved : Rows.FnQueuePutUnlessKeepsFirstOfEachSaid := fnQueuePutUnlessKeepsFirstOfEach.over
end Go.Proofs.Qxb6613772a
