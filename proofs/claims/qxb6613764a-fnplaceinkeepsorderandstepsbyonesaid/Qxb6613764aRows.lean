/-
  No cell of these rows narrows 'for every input' (looked for: loops, veiled, ifaces, maps, wideKeys, modest, calm, conditions, laid).
  DERIVED. THE GIVEN ROWS OF THIS SEAT. 1 by the template 'for every input the law returns true; each argument reads behind the call as it read before'; 0 by the template 'total and deterministic' (their statements: Qxb6613764aTotals.lean).
  GIVEN WITH THE SEED: the statements are not yours to turn. If you find one false, say at which input.
  Laid BY PROGRAM, IN A SANDBOX (cutbox-rows.mjs): the forced cells as the released guide's own fill.sh prints them over the translation 7eb4de811286ca1d… (all of the seat's roots in one cut). By AI agents, Wed Nov 11 2026. No macro, syntax, notation, axiom, sorry.
-/
import Derived.Test.Qxb6613764aChecked
import GoSem.Claim
import GoSem.ClaimJoined
import GoSem.ClaimMapViews
import Derived.JoinedTies
import Derived.KernelRfl
namespace Go.Proofs.Qxb6613764a
/- THE CELL 'sum', in the pinned program and in every row, IS THE sha256 OF THE DUMP (.gsa) THAT Qxb6613764aProg.lean LOADS. Nothing in Lean hashes anything: it is a label: what it is worth is what the hold of that sum in a sandbox is worth. -/
noncomputable def Try.pinned : Pinned := { name := "qxb6613764a", sum := "7eb4de811286ca1d26aeb165c55bcb9b1a5e64e7e65b807e236f88b2618b29bf", checked := Try.checked }
namespace Rows
def none {H : Type} : Left H := { results := [], args := [] }

/-- 'zzlaws_root_b1.FnPlaceInKeepsOrderAndStepsByOne': WHATEVER THE INPUT: true; the input reads as it did. -/
def fnPlaceInKeepsOrderAndStepsByOneSpec : ChangeSpec := { name := "fnPlaceInKeepsOrderAndStepsByOne", fn := fun _ => fun
  | [d1, d2] => { results := [.lit (.bool true)], args := [d1, d2] }
  | _ => none }
def fnPlaceInKeepsOrderAndStepsByOneRow : OpenClaim := { program := "qxb6613764a", sum := "7eb4de811286ca1d26aeb165c55bcb9b1a5e64e7e65b807e236f88b2618b29bf", func := "example.com/tranchework/tranchework/zzlaws_root_b1.FnPlaceInKeepsOrderAndStepsByOne", spec := "fnPlaceInKeepsOrderAndStepsByOne", apart := false }
def FnPlaceInKeepsOrderAndStepsByOneSaid : Prop := fnPlaceInKeepsOrderAndStepsByOneRow.holds Try.pinned (OpenSpec.ofChange fnPlaceInKeepsOrderAndStepsByOneSpec)

/-- ITS FALSE NEIGHBOUR: 'it returns false'. Refute it at one input. -/
def fnPlaceInKeepsOrderAndStepsByOneWrong : ChangeSpec := { name := "fnPlaceInKeepsOrderAndStepsByOne", fn := fun _ => fun
  | [d1, d2] => { results := [.lit (.bool false)], args := [d1, d2] }
  | _ => none }
def FnPlaceInKeepsOrderAndStepsByOneWrongFalsely : Prop := fnPlaceInKeepsOrderAndStepsByOneRow.holds Try.pinned (OpenSpec.ofChange fnPlaceInKeepsOrderAndStepsByOneWrong)

end Rows
end Go.Proofs.Qxb6613764a
