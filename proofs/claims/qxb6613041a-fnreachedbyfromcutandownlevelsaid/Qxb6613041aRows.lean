/-
  No cell of these rows narrows 'for every input' (looked for: loops, veiled, ifaces, maps, wideKeys, modest, calm, conditions, laid).
  DERIVED. THE GIVEN ROWS OF THIS SEAT. 2 by the template 'for every input the law returns true; each argument reads behind the call as it read before'; 0 by the template 'total and deterministic' (their statements: Qxb6613041aTotals.lean).
  GIVEN WITH THE SEED: the statements are not yours to turn. If you find one false, say at which input.
  Laid BY PROGRAM, IN A SANDBOX (cutbox-rows.mjs): the forced cells as the released guide's own fill.sh prints them over the translation 68058d149779e183… (all of the seat's roots in one cut). By AI agents, Wed Nov 11 2026. No macro, syntax, notation, axiom, sorry.
-/
import Derived.Test.Qxb6613041aChecked
import GoSem.Claim
import GoSem.ClaimJoined
import GoSem.ClaimMapViews
import Derived.JoinedTies
import Derived.KernelRfl
namespace Go.Proofs.Qxb6613041a
/- THE CELL 'sum', in the pinned program and in every row, IS THE sha256 OF THE DUMP (.gsa) THAT Qxb6613041aProg.lean LOADS. Nothing in Lean hashes anything: it is a label: what it is worth is what the hold of that sum in a sandbox is worth. -/
noncomputable def Try.pinned : Pinned := { name := "qxb6613041a", sum := "68058d149779e183bbcd45855366e94e440d91173a87ca0d69739d470c21dc77", checked := Try.checked }
namespace Rows
def none {H : Type} : Left H := { results := [], args := [] }

/-- 'zzlaws_tdx_b1.FnReachedByIffNothingToRaise': WHATEVER THE INPUT: true; the input reads as it did. -/
def fnReachedByIffNothingToRaiseSpec : ChangeSpec := { name := "fnReachedByIffNothingToRaise", fn := fun _ => fun
  | [d1, d2, d3, d4, d5, d6, d7, d8, d9] => { results := [.lit (.bool true)], args := [d1, d2, d3, d4, d5, d6, d7, d8, d9] }
  | _ => none }
def fnReachedByIffNothingToRaiseRow : OpenClaim := { program := "qxb6613041a", sum := "68058d149779e183bbcd45855366e94e440d91173a87ca0d69739d470c21dc77", func := "example.com/urkunde/urkunde/zzlaws_tdx_b1.FnReachedByIffNothingToRaise", spec := "fnReachedByIffNothingToRaise", apart := false }
def FnReachedByIffNothingToRaiseSaid : Prop := fnReachedByIffNothingToRaiseRow.holds Try.pinned (OpenSpec.ofChange fnReachedByIffNothingToRaiseSpec)

/-- ITS FALSE NEIGHBOUR: 'it returns false'. Refute it at one input. -/
def fnReachedByIffNothingToRaiseWrong : ChangeSpec := { name := "fnReachedByIffNothingToRaise", fn := fun _ => fun
  | [d1, d2, d3, d4, d5, d6, d7, d8, d9] => { results := [.lit (.bool false)], args := [d1, d2, d3, d4, d5, d6, d7, d8, d9] }
  | _ => none }
def FnReachedByIffNothingToRaiseWrongFalsely : Prop := fnReachedByIffNothingToRaiseRow.holds Try.pinned (OpenSpec.ofChange fnReachedByIffNothingToRaiseWrong)

/-- 'zzlaws_tdx_b1.FnReachedByFromCutAndOwnLevel': WHATEVER THE INPUT: true; the input reads as it did. -/
def fnReachedByFromCutAndOwnLevelSpec : ChangeSpec := { name := "fnReachedByFromCutAndOwnLevel", fn := fun _ => fun
  | [d1, d2, d3, d4, d5, d6, d7, d8, d9, d10] => { results := [.lit (.bool true)], args := [d1, d2, d3, d4, d5, d6, d7, d8, d9, d10] }
  | _ => none }
def fnReachedByFromCutAndOwnLevelRow : OpenClaim := { program := "qxb6613041a", sum := "68058d149779e183bbcd45855366e94e440d91173a87ca0d69739d470c21dc77", func := "example.com/urkunde/urkunde/zzlaws_tdx_b1.FnReachedByFromCutAndOwnLevel", spec := "fnReachedByFromCutAndOwnLevel", apart := false }
def FnReachedByFromCutAndOwnLevelSaid : Prop := fnReachedByFromCutAndOwnLevelRow.holds Try.pinned (OpenSpec.ofChange fnReachedByFromCutAndOwnLevelSpec)

/-- ITS FALSE NEIGHBOUR: 'it returns false'. Refute it at one input. -/
def fnReachedByFromCutAndOwnLevelWrong : ChangeSpec := { name := "fnReachedByFromCutAndOwnLevel", fn := fun _ => fun
  | [d1, d2, d3, d4, d5, d6, d7, d8, d9, d10] => { results := [.lit (.bool false)], args := [d1, d2, d3, d4, d5, d6, d7, d8, d9, d10] }
  | _ => none }
def FnReachedByFromCutAndOwnLevelWrongFalsely : Prop := fnReachedByFromCutAndOwnLevelRow.holds Try.pinned (OpenSpec.ofChange fnReachedByFromCutAndOwnLevelWrong)

end Rows
end Go.Proofs.Qxb6613041a
