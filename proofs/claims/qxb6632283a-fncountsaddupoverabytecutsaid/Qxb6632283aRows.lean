/-
  No cell of these rows narrows 'for every input' (looked for: loops, veiled, ifaces, maps, wideKeys, modest, calm, conditions, laid).
  DERIVED. THE GIVEN ROWS OF THIS SEAT. 2 by the template 'for every input the law returns true; each argument reads behind the call as it read before'; 0 by the template 'total and deterministic' (their statements: Qxb6632283aTotals.lean).
  GIVEN WITH THE SEED: the statements are not yours to turn. If you find one false, say at which input.
  Laid BY PROGRAM, IN A SANDBOX (cutbox-rows.mjs): the forced cells as the released guide's own fill.sh prints them over the translation 4b0c092633666f16… (all of the seat's roots in one cut). By AI agents, Wed Nov 11 2026. No macro, syntax, notation, axiom, sorry.
-/
import Derived.Test.Qxb6632283aChecked
import GoSem.Claim
import GoSem.ClaimJoined
import GoSem.ClaimMapViews
import Derived.JoinedTies
import Derived.KernelRfl
namespace Go.Proofs.Qxb6632283a
/- THE CELL 'sum', in the pinned program and in every row, IS THE sha256 OF THE DUMP (.gsa) THAT Qxb6632283aProg.lean LOADS. Nothing in Lean hashes anything: it is a label: what it is worth is what the hold of that sum in a sandbox is worth. -/
noncomputable def Try.pinned : Pinned := { name := "qxb6632283a", sum := "4b0c092633666f16ae9570bb0e9bb6de18e6d5bd9bf874cd182c605fd9d6a871", checked := Try.checked }
namespace Rows
def none {H : Type} : Left H := { results := [], args := [] }

/-- 'zzlaws_internal_plink_b1.FnCountsMatchesPerPersonDecode': WHATEVER THE INPUT: true; the input reads as it did. -/
def fnCountsMatchesPerPersonDecodeSpec : ChangeSpec := { name := "fnCountsMatchesPerPersonDecode", fn := fun _ => fun
  | [d1, d2] => { results := [.lit (.bool true)], args := [d1, d2] }
  | _ => none }
def fnCountsMatchesPerPersonDecodeRow : OpenClaim := { program := "qxb6632283a", sum := "4b0c092633666f16ae9570bb0e9bb6de18e6d5bd9bf874cd182c605fd9d6a871", func := "example.com/lichen/lichen/zzlaws_internal_plink_b1.FnCountsMatchesPerPersonDecode", spec := "fnCountsMatchesPerPersonDecode", apart := false }
def FnCountsMatchesPerPersonDecodeSaid : Prop := fnCountsMatchesPerPersonDecodeRow.holds Try.pinned (OpenSpec.ofChange fnCountsMatchesPerPersonDecodeSpec)

/-- ITS FALSE NEIGHBOUR: 'it returns false'. Refute it at one input. -/
def fnCountsMatchesPerPersonDecodeWrong : ChangeSpec := { name := "fnCountsMatchesPerPersonDecode", fn := fun _ => fun
  | [d1, d2] => { results := [.lit (.bool false)], args := [d1, d2] }
  | _ => none }
def FnCountsMatchesPerPersonDecodeWrongFalsely : Prop := fnCountsMatchesPerPersonDecodeRow.holds Try.pinned (OpenSpec.ofChange fnCountsMatchesPerPersonDecodeWrong)

/-- 'zzlaws_internal_plink_b1.FnCountsAddUpOverAByteCut': WHATEVER THE INPUT: true; the input reads as it did. -/
def fnCountsAddUpOverAByteCutSpec : ChangeSpec := { name := "fnCountsAddUpOverAByteCut", fn := fun _ => fun
  | [d1, d2, d3] => { results := [.lit (.bool true)], args := [d1, d2, d3] }
  | _ => none }
def fnCountsAddUpOverAByteCutRow : OpenClaim := { program := "qxb6632283a", sum := "4b0c092633666f16ae9570bb0e9bb6de18e6d5bd9bf874cd182c605fd9d6a871", func := "example.com/lichen/lichen/zzlaws_internal_plink_b1.FnCountsAddUpOverAByteCut", spec := "fnCountsAddUpOverAByteCut", apart := false }
def FnCountsAddUpOverAByteCutSaid : Prop := fnCountsAddUpOverAByteCutRow.holds Try.pinned (OpenSpec.ofChange fnCountsAddUpOverAByteCutSpec)

/-- ITS FALSE NEIGHBOUR: 'it returns false'. Refute it at one input. -/
def fnCountsAddUpOverAByteCutWrong : ChangeSpec := { name := "fnCountsAddUpOverAByteCut", fn := fun _ => fun
  | [d1, d2, d3] => { results := [.lit (.bool false)], args := [d1, d2, d3] }
  | _ => none }
def FnCountsAddUpOverAByteCutWrongFalsely : Prop := fnCountsAddUpOverAByteCutRow.holds Try.pinned (OpenSpec.ofChange fnCountsAddUpOverAByteCutWrong)

end Rows
end Go.Proofs.Qxb6632283a
