/-
  No cell of these rows narrows 'for every input' (looked for: loops, veiled, ifaces, maps, wideKeys, modest, calm, conditions, laid).
  DERIVED. THE GIVEN ROWS OF THIS SEAT. 4 by the template 'for every input the law returns true; each argument reads behind the call as it read before'; 0 by the template 'total and deterministic' (their statements: Qxb6613772aTotals.lean).
  GIVEN WITH THE SEED: the statements are not yours to turn. If you find one false, say at which input.
  Laid BY PROGRAM, IN A SANDBOX (cutbox-rows.mjs): the forced cells as the released guide's own fill.sh prints them over the translation e2c53fbd6a6680d2… (all of the seat's roots in one cut). By AI agents, Wed Nov 11 2026. No macro, syntax, notation, axiom, sorry.
-/
import Derived.Test.Qxb6613772aChecked
import GoSem.Claim
import GoSem.ClaimJoined
import GoSem.ClaimMapViews
import Derived.JoinedTies
import Derived.KernelRfl
namespace Go.Proofs.Qxb6613772a
/- THE CELL 'sum', in the pinned program and in every row, IS THE sha256 OF THE DUMP (.gsa) THAT Qxb6613772aProg.lean LOADS. Nothing in Lean hashes anything: it is a label: what it is worth is what the hold of that sum in a sandbox is worth. -/
noncomputable def Try.pinned : Pinned := { name := "qxb6613772a", sum := "e2c53fbd6a6680d24b2ad1c1172b7a9260b01be1cc78c0e497376b7aa9646b98", checked := Try.checked }
namespace Rows
def none {H : Type} : Left H := { results := [], args := [] }

/-- 'zzlaws_internal_relay_b1.FnQueueTakeKeepsOrderAcrossRefill': WHATEVER THE INPUT: true; the input reads as it did. -/
def fnQueueTakeKeepsOrderAcrossRefillSpec : ChangeSpec := { name := "fnQueueTakeKeepsOrderAcrossRefill", fn := fun _ => fun
  | [d1, d2, d3, d4] => { results := [.lit (.bool true)], args := [d1, d2, d3, d4] }
  | _ => none }
def fnQueueTakeKeepsOrderAcrossRefillRow : OpenClaim := { program := "qxb6613772a", sum := "e2c53fbd6a6680d24b2ad1c1172b7a9260b01be1cc78c0e497376b7aa9646b98", func := "example.com/quorumline/quorumline/zzlaws_internal_relay_b1.FnQueueTakeKeepsOrderAcrossRefill", spec := "fnQueueTakeKeepsOrderAcrossRefill", unfollowed := true, recurses := true, apart := false }
def FnQueueTakeKeepsOrderAcrossRefillSaid : Prop := fnQueueTakeKeepsOrderAcrossRefillRow.holds Try.pinned (OpenSpec.ofChange fnQueueTakeKeepsOrderAcrossRefillSpec)

/-- ITS FALSE NEIGHBOUR: 'it returns false'. Refute it at one input. -/
def fnQueueTakeKeepsOrderAcrossRefillWrong : ChangeSpec := { name := "fnQueueTakeKeepsOrderAcrossRefill", fn := fun _ => fun
  | [d1, d2, d3, d4] => { results := [.lit (.bool false)], args := [d1, d2, d3, d4] }
  | _ => none }
def FnQueueTakeKeepsOrderAcrossRefillWrongFalsely : Prop := fnQueueTakeKeepsOrderAcrossRefillRow.holds Try.pinned (OpenSpec.ofChange fnQueueTakeKeepsOrderAcrossRefillWrong)

/-- 'zzlaws_internal_relay_b1.FnQueuePutUnlessKeepsFirstOfEach': WHATEVER THE INPUT: true; the input reads as it did. -/
def fnQueuePutUnlessKeepsFirstOfEachSpec : ChangeSpec := { name := "fnQueuePutUnlessKeepsFirstOfEach", fn := fun _ => fun
  | [d] => { results := [.lit (.bool true)], args := [d] }
  | _ => none }
def fnQueuePutUnlessKeepsFirstOfEachRow : OpenClaim := { program := "qxb6613772a", sum := "e2c53fbd6a6680d24b2ad1c1172b7a9260b01be1cc78c0e497376b7aa9646b98", func := "example.com/quorumline/quorumline/zzlaws_internal_relay_b1.FnQueuePutUnlessKeepsFirstOfEach", spec := "fnQueuePutUnlessKeepsFirstOfEach", unfollowed := true, recurses := true, apart := false }
def FnQueuePutUnlessKeepsFirstOfEachSaid : Prop := fnQueuePutUnlessKeepsFirstOfEachRow.holds Try.pinned (OpenSpec.ofChange fnQueuePutUnlessKeepsFirstOfEachSpec)

/-- ITS FALSE NEIGHBOUR: 'it returns false'. Refute it at one input. -/
def fnQueuePutUnlessKeepsFirstOfEachWrong : ChangeSpec := { name := "fnQueuePutUnlessKeepsFirstOfEach", fn := fun _ => fun
  | [d] => { results := [.lit (.bool false)], args := [d] }
  | _ => none }
def FnQueuePutUnlessKeepsFirstOfEachWrongFalsely : Prop := fnQueuePutUnlessKeepsFirstOfEachRow.holds Try.pinned (OpenSpec.ofChange fnQueuePutUnlessKeepsFirstOfEachWrong)

/-- 'zzlaws_internal_relay_b1.FnFanoutPlaceTakesEveryMessageInOrder': WHATEVER THE INPUT: true; the input reads as it did. -/
def fnFanoutPlaceTakesEveryMessageInOrderSpec : ChangeSpec := { name := "fnFanoutPlaceTakesEveryMessageInOrder", fn := fun _ => fun
  | [d1, d2, d3] => { results := [.lit (.bool true)], args := [d1, d2, d3] }
  | _ => none }
def fnFanoutPlaceTakesEveryMessageInOrderRow : OpenClaim := { program := "qxb6613772a", sum := "e2c53fbd6a6680d24b2ad1c1172b7a9260b01be1cc78c0e497376b7aa9646b98", func := "example.com/quorumline/quorumline/zzlaws_internal_relay_b1.FnFanoutPlaceTakesEveryMessageInOrder", spec := "fnFanoutPlaceTakesEveryMessageInOrder", unfollowed := true, recurses := true, named := ["encoding/binary.BigEndian"], apart := false }
def FnFanoutPlaceTakesEveryMessageInOrderSaid : Prop := fnFanoutPlaceTakesEveryMessageInOrderRow.holds Try.pinned (OpenSpec.ofChange fnFanoutPlaceTakesEveryMessageInOrderSpec)

/-- ITS FALSE NEIGHBOUR: 'it returns false'. Refute it at one input. -/
def fnFanoutPlaceTakesEveryMessageInOrderWrong : ChangeSpec := { name := "fnFanoutPlaceTakesEveryMessageInOrder", fn := fun _ => fun
  | [d1, d2, d3] => { results := [.lit (.bool false)], args := [d1, d2, d3] }
  | _ => none }
def FnFanoutPlaceTakesEveryMessageInOrderWrongFalsely : Prop := fnFanoutPlaceTakesEveryMessageInOrderRow.holds Try.pinned (OpenSpec.ofChange fnFanoutPlaceTakesEveryMessageInOrderWrong)

/-- 'zzlaws_internal_relay_b1.FnFanoutPlacesTakeApart': WHATEVER THE INPUT: true; the input reads as it did. -/
def fnFanoutPlacesTakeApartSpec : ChangeSpec := { name := "fnFanoutPlacesTakeApart", fn := fun _ => fun
  | [d1, d2, d3, d4, d5, d6] => { results := [.lit (.bool true)], args := [d1, d2, d3, d4, d5, d6] }
  | _ => none }
def fnFanoutPlacesTakeApartRow : OpenClaim := { program := "qxb6613772a", sum := "e2c53fbd6a6680d24b2ad1c1172b7a9260b01be1cc78c0e497376b7aa9646b98", func := "example.com/quorumline/quorumline/zzlaws_internal_relay_b1.FnFanoutPlacesTakeApart", spec := "fnFanoutPlacesTakeApart", unfollowed := true, recurses := true, named := ["encoding/binary.BigEndian"], apart := false }
def FnFanoutPlacesTakeApartSaid : Prop := fnFanoutPlacesTakeApartRow.holds Try.pinned (OpenSpec.ofChange fnFanoutPlacesTakeApartSpec)

/-- ITS FALSE NEIGHBOUR: 'it returns false'. Refute it at one input. -/
def fnFanoutPlacesTakeApartWrong : ChangeSpec := { name := "fnFanoutPlacesTakeApart", fn := fun _ => fun
  | [d1, d2, d3, d4, d5, d6] => { results := [.lit (.bool false)], args := [d1, d2, d3, d4, d5, d6] }
  | _ => none }
def FnFanoutPlacesTakeApartWrongFalsely : Prop := fnFanoutPlacesTakeApartRow.holds Try.pinned (OpenSpec.ofChange fnFanoutPlacesTakeApartWrong)

end Rows
end Go.Proofs.Qxb6613772a
