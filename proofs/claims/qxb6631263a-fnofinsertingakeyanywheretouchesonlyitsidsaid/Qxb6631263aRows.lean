/-
  No cell of these rows narrows 'for every input' (looked for: loops, veiled, ifaces, maps, wideKeys, modest, calm, conditions, laid).
  DERIVED. THE GIVEN ROWS OF THIS SEAT. 2 by the template 'for every input the law returns true; each argument reads behind the call as it read before'; 0 by the template 'total and deterministic' (their statements: Qxb6631263aTotals.lean).
  GIVEN WITH THE SEED: the statements are not yours to turn. If you find one false, say at which input.
  Laid BY PROGRAM, IN A SANDBOX (cutbox-rows.mjs): the forced cells as the released guide's own fill.sh prints them over the translation c26ec6b32f61e370… (all of the seat's roots in one cut). By AI agents, Wed Nov 11 2026. No macro, syntax, notation, axiom, sorry.
-/
import Derived.Test.Qxb6631263aChecked
import GoSem.Claim
import GoSem.ClaimJoined
import GoSem.ClaimMapViews
import Derived.JoinedTies
import Derived.KernelRfl
namespace Go.Proofs.Qxb6631263a
/- THE CELL 'sum', in the pinned program and in every row, IS THE sha256 OF THE DUMP (.gsa) THAT Qxb6631263aProg.lean LOADS. Nothing in Lean hashes anything: it is a label: what it is worth is what the hold of that sum in a sandbox is worth. -/
noncomputable def Try.pinned : Pinned := { name := "qxb6631263a", sum := "c26ec6b32f61e37075b1ebab7cd72a91f55b4e0854da24f8fbd0eb95070dce20", checked := Try.checked }
namespace Rows
def none {H : Type} : Left H := { results := [], args := [] }

/-- 'zzlaws_internal_traffic_b1.FnOfAnswersLastConfiguredRowAsAFreshSnapshot': WHATEVER THE INPUT: true; the input reads as it did. -/
def fnOfAnswersLastConfiguredRowAsAFreshSnapshotSpec : ChangeSpec := { name := "fnOfAnswersLastConfiguredRowAsAFreshSnapshot", fn := fun _ => fun
  | [d1, d2] => { results := [.lit (.bool true)], args := [d1, d2] }
  | _ => none }
def fnOfAnswersLastConfiguredRowAsAFreshSnapshotRow : OpenClaim := { program := "qxb6631263a", sum := "c26ec6b32f61e37075b1ebab7cd72a91f55b4e0854da24f8fbd0eb95070dce20", func := "example.com/eshu/eshu/zzlaws_internal_traffic_b1.FnOfAnswersLastConfiguredRowAsAFreshSnapshot", spec := "fnOfAnswersLastConfiguredRowAsAFreshSnapshot", inPlace := ["sync/atomic.StoreInt64", "sync/atomic.LoadInt64"], apart := false }
def FnOfAnswersLastConfiguredRowAsAFreshSnapshotSaid : Prop := fnOfAnswersLastConfiguredRowAsAFreshSnapshotRow.holds Try.pinned (OpenSpec.ofChange fnOfAnswersLastConfiguredRowAsAFreshSnapshotSpec)

/-- ITS FALSE NEIGHBOUR: 'it returns false'. Refute it at one input. -/
def fnOfAnswersLastConfiguredRowAsAFreshSnapshotWrong : ChangeSpec := { name := "fnOfAnswersLastConfiguredRowAsAFreshSnapshot", fn := fun _ => fun
  | [d1, d2] => { results := [.lit (.bool false)], args := [d1, d2] }
  | _ => none }
def FnOfAnswersLastConfiguredRowAsAFreshSnapshotWrongFalsely : Prop := fnOfAnswersLastConfiguredRowAsAFreshSnapshotRow.holds Try.pinned (OpenSpec.ofChange fnOfAnswersLastConfiguredRowAsAFreshSnapshotWrong)

/-- 'zzlaws_internal_traffic_b1.FnOfInsertingAKeyAnywhereTouchesOnlyItsID': WHATEVER THE INPUT: true; the input reads as it did. -/
def fnOfInsertingAKeyAnywhereTouchesOnlyItsIDSpec : ChangeSpec := { name := "fnOfInsertingAKeyAnywhereTouchesOnlyItsID", fn := fun _ => fun
  | [d1, d2, d3, d4] => { results := [.lit (.bool true)], args := [d1, d2, d3, d4] }
  | _ => none }
def fnOfInsertingAKeyAnywhereTouchesOnlyItsIDRow : OpenClaim := { program := "qxb6631263a", sum := "c26ec6b32f61e37075b1ebab7cd72a91f55b4e0854da24f8fbd0eb95070dce20", func := "example.com/eshu/eshu/zzlaws_internal_traffic_b1.FnOfInsertingAKeyAnywhereTouchesOnlyItsID", spec := "fnOfInsertingAKeyAnywhereTouchesOnlyItsID", inPlace := ["sync/atomic.StoreInt64", "sync/atomic.LoadInt64"], apart := false }
def FnOfInsertingAKeyAnywhereTouchesOnlyItsIDSaid : Prop := fnOfInsertingAKeyAnywhereTouchesOnlyItsIDRow.holds Try.pinned (OpenSpec.ofChange fnOfInsertingAKeyAnywhereTouchesOnlyItsIDSpec)

/-- ITS FALSE NEIGHBOUR: 'it returns false'. Refute it at one input. -/
def fnOfInsertingAKeyAnywhereTouchesOnlyItsIDWrong : ChangeSpec := { name := "fnOfInsertingAKeyAnywhereTouchesOnlyItsID", fn := fun _ => fun
  | [d1, d2, d3, d4] => { results := [.lit (.bool false)], args := [d1, d2, d3, d4] }
  | _ => none }
def FnOfInsertingAKeyAnywhereTouchesOnlyItsIDWrongFalsely : Prop := fnOfInsertingAKeyAnywhereTouchesOnlyItsIDRow.holds Try.pinned (OpenSpec.ofChange fnOfInsertingAKeyAnywhereTouchesOnlyItsIDWrong)

end Rows
end Go.Proofs.Qxb6631263a
