/-
  The proof of Rows.FnPlaceInKeepsOrderAndStepsByOneSaid: the frame is the template of the guide at this function; the plain law and the walk are the prover's.
-/
import Derived.Test.Qxb6613764aRows
import Derived.WalkKit
import Derived.ProofKit
import Derived.OpenShut
import Derived.ShutString
import Derived.Laws.MathBits
namespace Go.Proofs.Qxb6613764a.fnPlaceInKeepsOrderAndStepsByOne
open Go.ChangeShapes Go.WideShapes Go.ChangeAt Go.RowKit
open Go.ChangeMaps (open_string shut_string)
set_option linter.unusedVariables false      -- a walk need not use every 'w<i>' (that an integer argument fits its kind)

theorem own : ownKnob Try.prog.godebug = none := by kernel_rfl

/-! ### THE PLAIN LAW: no Go in sight -/
theorem low_next (a : Int) : IntKind.u64.wrap (a + 1) % 4294967296 = (a + 1) % 4294967296 := by
  rw [IntKind.wrap_u64]; omega
theorem bounds (a : Int) (h : (Lit.int .u64 a).wf = true) : 0 ≤ a ∧ a < 18446744073709551616 := by
  have := bounds_u64 h; omega

/-! ### STEP 1: THE WALK: the Go text returns true. 'Grown w w'': the world has at most new blocks (Derived/RowKit3.lean). Part the cases AHEAD of 'go_enter' where a test parts the walk; take each callee by a contract of your own. -/
theorem walk (a0 : Int) (a1 : Int) (w0 : (Lit.int .u64 a0).wf = true) (w1 : (Lit.int .u64 a1).wf = true) (w : World) :
    Calls Try.prog 3 #[.int .u64 a0, .int .u64 a1] w fun e w' => e = .returned (.bool true) ∧ Grown w w' := by
  obtain ⟨h00, h01⟩ := bounds a0 w0
  obtain ⟨h10, h11⟩ := bounds a1 w1
  have e0 : bits BinOp.and IntKind.u64 a0 4294967295 = a0 % 4294967296 := and_low32 a0 h00 h01
  have e1 : bits BinOp.and IntKind.u64 a1 4294967295 = a1 % 4294967296 := and_low32 a1 h10 h11
  have e2 := low_next a0
  have m0 : 0 ≤ a0 % 4294967296 := by omega
  have m0' : a0 % 4294967296 < 4294967296 := by omega
  have q1 : (a0 % 4294967296 - 1 == a1 % 4294967296 - 1) = (a0 % 4294967296 == a1 % 4294967296) := by
    rw [Bool.eq_iff_iff]; simp only [beq_iff_eq]; omega
  have q2 : (a0 % 4294967296 - 1 == -1) = (a0 % 4294967296 == 0) := by
    rw [Bool.eq_iff_iff]; simp only [beq_iff_eq]; omega
  by_cases hl : a0 % 4294967296 = 4294967295
  · have q3 : (a0 % 4294967296 == 4294967295) = true := by rw [beq_iff_eq]; exact hl
    have q4 : ((a0 + 1) % 4294967296 - 1 == -1) = true := by rw [beq_iff_eq]; omega
    clear hl w0 w1
    go_enter Try.func3, Try.ntmps3
    go_wp2
    go_ret
    exact ⟨rfl, by repeat (first | exact Grown.refl _ | apply Grown.drew | apply Grown.alloc)⟩
  · have q3 : (a0 % 4294967296 == 4294967295) = false := by rw [beq_eq_false_iff_ne]; exact hl
    have q4 : ((a0 + 1) % 4294967296 - 1 == a0 % 4294967296) = true := by rw [beq_iff_eq]; omega
    clear hl w0 w1
    go_enter Try.func3, Try.ntmps3
    go_wp2
    go_ret
    exact ⟨rfl, by repeat (first | exact Grown.refl _ | apply Grown.drew | apply Grown.alloc)⟩

/-! ### THE ROW's STEP: WRITTEN OUT: LEAVE IT -/
set_option maxRecDepth 100000 in
theorem lifted (os : Os) (started : os.Started) (H : Type) (enc : TypeId × Value → H) :
    ReturnsInHanded {} Try.checked os 3 .any (Rows.fnPlaceInKeepsOrderAndStepsByOneSpec.pre6 enc Try.prog Try.f3 Rows.fnPlaceInKeepsOrderAndStepsByOneRow.domain false) (Rows.fnPlaceInKeepsOrderAndStepsByOneSpec.post enc Try.prog Try.f3 false true false false) := by
  refine returnsInHanded_of_change (C := Try.checked) own started (by kernel_rfl) Try.func3
    (ChangeSpec.witness6 (enc := enc) (C := Try.checked) false ⟨#[], #[.int .u64 0, .int .u64 0], []⟩ 8 (by kernel_rfl) (by kernel_rfl) (by kernel_rfl) (by kernel_rfl)) ?_
  intro W base args ds gs before hval0 hW hcnd _
  have hval : ∀ (j : Nat) t v, Try.f3.params[j]? = some t → args[j]? = some v → Value.okWide Try.prog W .any base t v := hval0
  have hW' := hW
  obtain ⟨p, q, hA0, hV, rfl, hfz, hnd⟩ := hW
  have hA : DataW.TrodAll enc Try.prog W 0 (fun _ => true) true Try.f3.params.toList args.toList ds p := hA0
  rw [Try.params3] at hA hval
  obtain ⟨v0, vs0, d0, ds0, p0, q0, hargs, rfl, rfl, h0, r0⟩ := trodAll_cons hA
  obtain ⟨v1, vs1, d1, ds1, p1, q1, rfl, rfl, rfl, h1, r1⟩ := trodAll_cons r0
  obtain ⟨rfl, rfl, rfl⟩ := trodAll_nil r1
  obtain rfl : args = #[v0, v1] := by cases args; simp_all
  obtain ⟨rfl, rfl⟩ := trodVars_none hV
  obtain ⟨a0, rfl, rfl, rfl, w0⟩ := open_int Try.underlying22 (hval 0 22 v0 rfl rfl) h0
  obtain ⟨a1, rfl, rfl, rfl, w1⟩ := open_int Try.underlying22 (hval 1 22 v1 rfl rfl) h1
  clear hA0 hval0
  simp only [List.append_nil] at hW'
  refine (walk a0 a1 w0 w1 W).mono fun e W' ⟨he, hg⟩ => ?_
  subst he
  exact ⟨_, rfl, post_of_same (pa := []) (pv := []) hW' (fun _ _ _ => (trodAll_cons_mk (shut_bool Try.underlying4 _) trodAll_mk0)) (fun sp _ => (trodAll_cons_mk (shut_int Try.underlying22 w0) (trodAll_cons_mk (shut_int Try.underlying22 w1) trodAll_mk0))) (fun _ _ => rfl) rfl
    (hg.frame _) hg.2.1 (ok_one (by kernel_rfl) rfl (okWide_bool_mk Try.underlying4 _))⟩

theorem over : Rows.fnPlaceInKeepsOrderAndStepsByOneRow.holds Try.pinned (OpenSpec.ofChange Rows.fnPlaceInKeepsOrderAndStepsByOneSpec) :=
  OpenClaim.holds_of_wide 3 Try.f3 rfl rfl rfl rfl rfl rfl rfl ⟨rfl, rfl, rfl, rfl, rfl⟩ rfl rfl rfl rfl rfl (by kernel_rfl) Try.func3 (by kernel_rfl)
    (of_decide_eq_true (by kernel_rfl)) (by unfold Func.isWrapper; first | (rw [if_pos (by decide +kernel)]; kernel_rfl) | (rw [if_neg (by decide +kernel)]; exact ⟨rfl, rfl⟩))
    (fun os started H enc _ => lifted os started H enc)

theorem proved : Rows.FnPlaceInKeepsOrderAndStepsByOneSaid :=
  over
end Go.Proofs.Qxb6613764a.fnPlaceInKeepsOrderAndStepsByOne

namespace Go.Proofs.Qxb6613764a
theorem fnPlaceInKeepsOrderAndStepsByOne_proved : Rows.FnPlaceInKeepsOrderAndStepsByOneSaid := fnPlaceInKeepsOrderAndStepsByOne.proved
end Go.Proofs.Qxb6613764a
