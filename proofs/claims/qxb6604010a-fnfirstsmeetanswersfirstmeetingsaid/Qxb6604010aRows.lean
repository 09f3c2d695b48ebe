/-
  No cell of these rows narrows 'for every input' (looked for: loops, veiled, ifaces, maps, wideKeys, modest, calm, conditions, laid).
  DERIVED. THE GIVEN ROWS OF THIS SEAT. 4 by the template 'for every input the law returns true; each argument reads behind the call as it read before'; 0 by the template 'total and deterministic' (their statements: Qxb6604010aTotals.lean).
  GIVEN WITH THE SEED: the statements are not yours to turn. If you find one false, say at which input.
  Laid BY PROGRAM, IN A SANDBOX (cutbox-rows.mjs): the forced cells as the released guide's own fill.sh prints them over the translation fbd33aea9a31745b… (all of the seat's roots in one cut). By AI agents, Wed Nov 11 2026. No macro, syntax, notation, axiom, sorry.
-/
import Derived.Test.Qxb6604010aChecked
import GoSem.Claim
import GoSem.ClaimJoined
import GoSem.ClaimMapViews
import Derived.JoinedTies
import Derived.KernelRfl
namespace Go.Proofs.Qxb6604010a
/- THE CELL 'sum', in the pinned program and in every row, IS THE sha256 OF THE DUMP (.gsa) THAT Qxb6604010aProg.lean LOADS. Nothing in Lean hashes anything: it is a label: what it is worth is what the hold of that sum in a sandbox is worth. -/
noncomputable def Try.pinned : Pinned := { name := "qxb6604010a", sum := "fbd33aea9a31745ba2c2c26d12fb7dc86965dbc0d9829faad9b49d39d72ec75c", checked := Try.checked }
namespace Rows
def none {H : Type} : Left H := { results := [], args := [] }

/-- 'zzlaws_policy_b1.FnEndRowsAtCarriageReturnsMatchesQuoteAutomaton': WHATEVER THE INPUT: true; the input reads as it did. -/
def fnEndRowsAtCarriageReturnsMatchesQuoteAutomatonSpec : ChangeSpec := { name := "fnEndRowsAtCarriageReturnsMatchesQuoteAutomaton", fn := fun _ => fun
  | [d] => { results := [.lit (.bool true)], args := [d] }
  | _ => none }
def fnEndRowsAtCarriageReturnsMatchesQuoteAutomatonRow : OpenClaim := { program := "qxb6604010a", sum := "fbd33aea9a31745ba2c2c26d12fb7dc86965dbc0d9829faad9b49d39d72ec75c", func := "example.com/rules-to-rulings/rules-to-rulings/zzlaws_policy_b1.FnEndRowsAtCarriageReturnsMatchesQuoteAutomaton", spec := "fnEndRowsAtCarriageReturnsMatchesQuoteAutomaton", inPlace := ["internal/bytealg.IndexByte"], plainKeys := false, apart := false }
def FnEndRowsAtCarriageReturnsMatchesQuoteAutomatonSaid : Prop := fnEndRowsAtCarriageReturnsMatchesQuoteAutomatonRow.holds Try.pinned (OpenSpec.ofChange fnEndRowsAtCarriageReturnsMatchesQuoteAutomatonSpec)

/-- ITS FALSE NEIGHBOUR: 'it returns false'. Refute it at one input. -/
def fnEndRowsAtCarriageReturnsMatchesQuoteAutomatonWrong : ChangeSpec := { name := "fnEndRowsAtCarriageReturnsMatchesQuoteAutomaton", fn := fun _ => fun
  | [d] => { results := [.lit (.bool false)], args := [d] }
  | _ => none }
def FnEndRowsAtCarriageReturnsMatchesQuoteAutomatonWrongFalsely : Prop := fnEndRowsAtCarriageReturnsMatchesQuoteAutomatonRow.holds Try.pinned (OpenSpec.ofChange fnEndRowsAtCarriageReturnsMatchesQuoteAutomatonWrong)

/-- 'zzlaws_policy_b1.FnRefineMatchesLeastPlaceModel': WHATEVER THE INPUT: true; the input reads as it did. -/
def fnRefineMatchesLeastPlaceModelSpec : ChangeSpec := { name := "fnRefineMatchesLeastPlaceModel", fn := fun _ => fun
  | [d1, d2, d3, d4, d5] => { results := [.lit (.bool true)], args := [d1, d2, d3, d4, d5] }
  | _ => none }
def fnRefineMatchesLeastPlaceModelRow : OpenClaim := { program := "qxb6604010a", sum := "fbd33aea9a31745ba2c2c26d12fb7dc86965dbc0d9829faad9b49d39d72ec75c", func := "example.com/rules-to-rulings/rules-to-rulings/zzlaws_policy_b1.FnRefineMatchesLeastPlaceModel", spec := "fnRefineMatchesLeastPlaceModel", plainKeys := false, apart := false }
def FnRefineMatchesLeastPlaceModelSaid : Prop := fnRefineMatchesLeastPlaceModelRow.holds Try.pinned (OpenSpec.ofChange fnRefineMatchesLeastPlaceModelSpec)

/-- ITS FALSE NEIGHBOUR: 'it returns false'. Refute it at one input. -/
def fnRefineMatchesLeastPlaceModelWrong : ChangeSpec := { name := "fnRefineMatchesLeastPlaceModel", fn := fun _ => fun
  | [d1, d2, d3, d4, d5] => { results := [.lit (.bool false)], args := [d1, d2, d3, d4, d5] }
  | _ => none }
def FnRefineMatchesLeastPlaceModelWrongFalsely : Prop := fnRefineMatchesLeastPlaceModelRow.holds Try.pinned (OpenSpec.ofChange fnRefineMatchesLeastPlaceModelWrong)

/-- 'zzlaws_policy_b1.FnRefineScriptKeepsLeastGeneralization': WHATEVER THE INPUT: true; the input reads as it did. -/
def fnRefineScriptKeepsLeastGeneralizationSpec : ChangeSpec := { name := "fnRefineScriptKeepsLeastGeneralization", fn := fun _ => fun
  | [d] => { results := [.lit (.bool true)], args := [d] }
  | _ => none }
def fnRefineScriptKeepsLeastGeneralizationRow : OpenClaim := { program := "qxb6604010a", sum := "fbd33aea9a31745ba2c2c26d12fb7dc86965dbc0d9829faad9b49d39d72ec75c", func := "example.com/rules-to-rulings/rules-to-rulings/zzlaws_policy_b1.FnRefineScriptKeepsLeastGeneralization", spec := "fnRefineScriptKeepsLeastGeneralization", plainKeys := false, apart := false }
def FnRefineScriptKeepsLeastGeneralizationSaid : Prop := fnRefineScriptKeepsLeastGeneralizationRow.holds Try.pinned (OpenSpec.ofChange fnRefineScriptKeepsLeastGeneralizationSpec)

/-- ITS FALSE NEIGHBOUR: 'it returns false'. Refute it at one input. -/
def fnRefineScriptKeepsLeastGeneralizationWrong : ChangeSpec := { name := "fnRefineScriptKeepsLeastGeneralization", fn := fun _ => fun
  | [d] => { results := [.lit (.bool false)], args := [d] }
  | _ => none }
def FnRefineScriptKeepsLeastGeneralizationWrongFalsely : Prop := fnRefineScriptKeepsLeastGeneralizationRow.holds Try.pinned (OpenSpec.ofChange fnRefineScriptKeepsLeastGeneralizationWrong)

/-- 'zzlaws_policy_b1.FnFirstsMeetAnswersFirstMeeting': WHATEVER THE INPUT: true; the input reads as it did. -/
def fnFirstsMeetAnswersFirstMeetingSpec : ChangeSpec := { name := "fnFirstsMeetAnswersFirstMeeting", fn := fun _ => fun
  | [d1, d2] => { results := [.lit (.bool true)], args := [d1, d2] }
  | _ => none }
def fnFirstsMeetAnswersFirstMeetingRow : OpenClaim := { program := "qxb6604010a", sum := "fbd33aea9a31745ba2c2c26d12fb7dc86965dbc0d9829faad9b49d39d72ec75c", func := "example.com/rules-to-rulings/rules-to-rulings/zzlaws_policy_b1.FnFirstsMeetAnswersFirstMeeting", spec := "fnFirstsMeetAnswersFirstMeeting", plainKeys := false, apart := false }
def FnFirstsMeetAnswersFirstMeetingSaid : Prop := fnFirstsMeetAnswersFirstMeetingRow.holds Try.pinned (OpenSpec.ofChange fnFirstsMeetAnswersFirstMeetingSpec)

/-- ITS FALSE NEIGHBOUR: 'it returns false'. Refute it at one input. -/
def fnFirstsMeetAnswersFirstMeetingWrong : ChangeSpec := { name := "fnFirstsMeetAnswersFirstMeeting", fn := fun _ => fun
  | [d1, d2] => { results := [.lit (.bool false)], args := [d1, d2] }
  | _ => none }
def FnFirstsMeetAnswersFirstMeetingWrongFalsely : Prop := fnFirstsMeetAnswersFirstMeetingRow.holds Try.pinned (OpenSpec.ofChange fnFirstsMeetAnswersFirstMeetingWrong)

end Rows
end Go.Proofs.Qxb6604010a
