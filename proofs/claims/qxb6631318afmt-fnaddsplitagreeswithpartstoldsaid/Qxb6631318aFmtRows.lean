/-
  No cell of these rows narrows 'for every input' (looked for: loops, veiled, ifaces, maps, wideKeys, modest, calm, conditions, laid).
  DERIVED. THE GIVEN ROWS OF THIS SEAT. 2 by the template 'for every input the law returns true; each argument reads behind the call as it read before'; 0 by the template 'total and deterministic' (their statements: Qxb6631318aFmtTotals.lean).
  GIVEN WITH THE SEED: the statements are not yours to turn. If you find one false, say at which input.
  Laid BY PROGRAM, IN A SANDBOX (cutbox-rows.mjs): the forced cells as the released guide's own fill.sh prints them over the translation e1920067c9b1ef18… (all of the seat's roots in one cut). By AI agents, Wed Nov 11 2026. No macro, syntax, notation, axiom, sorry.
-/
import Derived.Test.Qxb6631318aFmtChecked
import GoSem.Claim
import GoSem.ClaimJoined
import GoSem.ClaimMapViews
import Derived.JoinedTies
import Derived.KernelRfl
namespace Go.Proofs.Qxb6631318aFmt
/- THE CELL 'sum', in the pinned program and in every row, IS THE sha256 OF THE DUMP (.gsa) THAT Qxb6631318aFmtProg.lean LOADS. Nothing in Lean hashes anything: it is a label: what it is worth is what the hold of that sum in a sandbox is worth. -/
noncomputable def Tryf.pinned : Pinned := { name := "qxb6631318afmt", sum := "e1920067c9b1ef18991fe83137262eec29df3b11d41ce36e0c1b4fcd4ed74b07", checked := Tryf.checked }
namespace Rows
def none {H : Type} : Left H := { results := [], args := [] }

/-- 'zzlaws_internal_stats_b1.FnAddScriptMatchesModel': WHATEVER THE INPUT: true; the input reads as it did. -/
def fnAddScriptMatchesModelSpec : ChangeSpec := { name := "fnAddScriptMatchesModel", fn := fun _ => fun
  | [d] => { results := [.lit (.bool true)], args := [d] }
  | _ => none }
def fnAddScriptMatchesModelRow : OpenClaim := { program := "qxb6631318afmt", sum := "e1920067c9b1ef18991fe83137262eec29df3b11d41ce36e0c1b4fcd4ed74b07", func := "example.com/dropwire/dropwire/zzlaws_internal_stats_b1.FnAddScriptMatchesModel", spec := "fnAddScriptMatchesModel", stops := ["fmt.Sprintf"], inPlace := ["fmt.Sprintf"], apart := false }
/-- NO THEOREM (fmt's text is open here; it may be false): for the released tool's asking of the row's closed facts alone. THE STATEMENT IS 'FnAddScriptMatchesModelToldSaid' (Qxb6631318aFmtCards.lean). -/
def FnAddScriptMatchesModelFormAsk : Prop := fnAddScriptMatchesModelRow.holds Tryf.pinned (OpenSpec.ofChange fnAddScriptMatchesModelSpec)

/-- ITS FALSE NEIGHBOUR: 'it returns false'. Refute it at one input. -/
def fnAddScriptMatchesModelWrong : ChangeSpec := { name := "fnAddScriptMatchesModel", fn := fun _ => fun
  | [d] => { results := [.lit (.bool false)], args := [d] }
  | _ => none }
def FnAddScriptMatchesModelWrongFormAsk : Prop := fnAddScriptMatchesModelRow.holds Tryf.pinned (OpenSpec.ofChange fnAddScriptMatchesModelWrong)

/-- 'zzlaws_internal_stats_b1.FnAddSplitAgreesWithParts': WHATEVER THE INPUT: true; the input reads as it did. -/
def fnAddSplitAgreesWithPartsSpec : ChangeSpec := { name := "fnAddSplitAgreesWithParts", fn := fun _ => fun
  | [d1, d2] => { results := [.lit (.bool true)], args := [d1, d2] }
  | _ => none }
def fnAddSplitAgreesWithPartsRow : OpenClaim := { program := "qxb6631318afmt", sum := "e1920067c9b1ef18991fe83137262eec29df3b11d41ce36e0c1b4fcd4ed74b07", func := "example.com/dropwire/dropwire/zzlaws_internal_stats_b1.FnAddSplitAgreesWithParts", spec := "fnAddSplitAgreesWithParts", stops := ["fmt.Sprintf"], inPlace := ["fmt.Sprintf"], apart := false }
/-- NO THEOREM (fmt's text is open here; it may be false): for the released tool's asking of the row's closed facts alone. THE STATEMENT IS 'FnAddSplitAgreesWithPartsToldSaid' (Qxb6631318aFmtCards.lean). -/
def FnAddSplitAgreesWithPartsFormAsk : Prop := fnAddSplitAgreesWithPartsRow.holds Tryf.pinned (OpenSpec.ofChange fnAddSplitAgreesWithPartsSpec)

/-- ITS FALSE NEIGHBOUR: 'it returns false'. Refute it at one input. -/
def fnAddSplitAgreesWithPartsWrong : ChangeSpec := { name := "fnAddSplitAgreesWithParts", fn := fun _ => fun
  | [d1, d2] => { results := [.lit (.bool false)], args := [d1, d2] }
  | _ => none }
def FnAddSplitAgreesWithPartsWrongFormAsk : Prop := fnAddSplitAgreesWithPartsRow.holds Tryf.pinned (OpenSpec.ofChange fnAddSplitAgreesWithPartsWrong)

end Rows
end Go.Proofs.Qxb6631318aFmt
