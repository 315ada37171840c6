/-
  No cell of these rows narrows 'for every input' (looked for: loops, veiled, ifaces, maps, wideKeys, modest, calm, conditions, laid).
  DERIVED. THE GIVEN ROWS OF THIS SEAT. 3 by the template 'for every input the law returns true; each argument reads behind the call as it read before'; 0 by the template 'total and deterministic' (their statements: Qxb6613813aTotals.lean).
  GIVEN WITH THE SEED: the statements are not yours to turn. If you find one false, say at which input.
  Laid BY PROGRAM, IN A SANDBOX (cutbox-rows.mjs): the forced cells as the released guide's own fill.sh prints them over the translation 2fb3db2a8d52113e… (all of the seat's roots in one cut). By AI agents, Wed Nov 11 2026. No macro, syntax, notation, axiom, sorry.
-/
import Derived.Test.Qxb6613813aChecked
import GoSem.Claim
import GoSem.ClaimJoined
import GoSem.ClaimMapViews
import Derived.JoinedTies
import Derived.KernelRfl
namespace Go.Proofs.Qxb6613813a
/- THE CELL 'sum', in the pinned program and in every row, IS THE sha256 OF THE DUMP (.gsa) THAT Qxb6613813aProg.lean LOADS. Nothing in Lean hashes anything: it is a label: what it is worth is what the hold of that sum in a sandbox is worth. -/
noncomputable def Try.pinned : Pinned := { name := "qxb6613813a", sum := "2fb3db2a8d52113e5768f62c096cac47f62856aa4692a333e7cb000e9e1d16f0", checked := Try.checked }
namespace Rows
def none {H : Type} : Left H := { results := [], args := [] }

/-- 'zzlaws_internal_sim_b1.FnNewCheckerQuorumsAddUp': WHATEVER THE INPUT: true; the input reads as it did. -/
def fnNewCheckerQuorumsAddUpSpec : ChangeSpec := { name := "fnNewCheckerQuorumsAddUp", fn := fun _ => fun
  | [d1, d2] => { results := [.lit (.bool true)], args := [d1, d2] }
  | _ => none }
def fnNewCheckerQuorumsAddUpRow : OpenClaim := { program := "qxb6613813a", sum := "2fb3db2a8d52113e5768f62c096cac47f62856aa4692a333e7cb000e9e1d16f0", func := "example.com/concordat/concordat/zzlaws_internal_sim_b1.FnNewCheckerQuorumsAddUp", spec := "fnNewCheckerQuorumsAddUp", plainKeys := false, apart := false }
def FnNewCheckerQuorumsAddUpSaid : Prop := fnNewCheckerQuorumsAddUpRow.holds Try.pinned (OpenSpec.ofChange fnNewCheckerQuorumsAddUpSpec)

/-- ITS FALSE NEIGHBOUR: 'it returns false'. Refute it at one input. -/
def fnNewCheckerQuorumsAddUpWrong : ChangeSpec := { name := "fnNewCheckerQuorumsAddUp", fn := fun _ => fun
  | [d1, d2] => { results := [.lit (.bool false)], args := [d1, d2] }
  | _ => none }
def FnNewCheckerQuorumsAddUpWrongFalsely : Prop := fnNewCheckerQuorumsAddUpRow.holds Try.pinned (OpenSpec.ofChange fnNewCheckerQuorumsAddUpWrong)

/-- 'zzlaws_internal_sim_b1.FnNewCheckerOneMoreAcceptor': WHATEVER THE INPUT: true; the input reads as it did. -/
def fnNewCheckerOneMoreAcceptorSpec : ChangeSpec := { name := "fnNewCheckerOneMoreAcceptor", fn := fun _ => fun
  | [d] => { results := [.lit (.bool true)], args := [d] }
  | _ => none }
def fnNewCheckerOneMoreAcceptorRow : OpenClaim := { program := "qxb6613813a", sum := "2fb3db2a8d52113e5768f62c096cac47f62856aa4692a333e7cb000e9e1d16f0", func := "example.com/concordat/concordat/zzlaws_internal_sim_b1.FnNewCheckerOneMoreAcceptor", spec := "fnNewCheckerOneMoreAcceptor", plainKeys := false, apart := false }
def FnNewCheckerOneMoreAcceptorSaid : Prop := fnNewCheckerOneMoreAcceptorRow.holds Try.pinned (OpenSpec.ofChange fnNewCheckerOneMoreAcceptorSpec)

/-- ITS FALSE NEIGHBOUR: 'it returns false'. Refute it at one input. -/
def fnNewCheckerOneMoreAcceptorWrong : ChangeSpec := { name := "fnNewCheckerOneMoreAcceptor", fn := fun _ => fun
  | [d] => { results := [.lit (.bool false)], args := [d] }
  | _ => none }
def FnNewCheckerOneMoreAcceptorWrongFalsely : Prop := fnNewCheckerOneMoreAcceptorRow.holds Try.pinned (OpenSpec.ofChange fnNewCheckerOneMoreAcceptorWrong)

/-- 'zzlaws_internal_sim_b1.FnStartProposerRestartReplaces': WHATEVER THE INPUT: true; the input reads as it did. -/
def fnStartProposerRestartReplacesSpec : ChangeSpec := { name := "fnStartProposerRestartReplaces", fn := fun _ => fun
  | [d1, d2, d3, d4, d5] => { results := [.lit (.bool true)], args := [d1, d2, d3, d4, d5] }
  | _ => none }
def fnStartProposerRestartReplacesRow : OpenClaim := { program := "qxb6613813a", sum := "2fb3db2a8d52113e5768f62c096cac47f62856aa4692a333e7cb000e9e1d16f0", func := "example.com/concordat/concordat/zzlaws_internal_sim_b1.FnStartProposerRestartReplaces", spec := "fnStartProposerRestartReplaces", plainKeys := false, apart := false }
def FnStartProposerRestartReplacesSaid : Prop := fnStartProposerRestartReplacesRow.holds Try.pinned (OpenSpec.ofChange fnStartProposerRestartReplacesSpec)

/-- ITS FALSE NEIGHBOUR: 'it returns false'. Refute it at one input. -/
def fnStartProposerRestartReplacesWrong : ChangeSpec := { name := "fnStartProposerRestartReplaces", fn := fun _ => fun
  | [d1, d2, d3, d4, d5] => { results := [.lit (.bool false)], args := [d1, d2, d3, d4, d5] }
  | _ => none }
def FnStartProposerRestartReplacesWrongFalsely : Prop := fnStartProposerRestartReplacesRow.holds Try.pinned (OpenSpec.ofChange fnStartProposerRestartReplacesWrong)

end Rows
end Go.Proofs.Qxb6613813a
