/-
  No cell of these rows narrows 'for every input' (looked for: loops, veiled, ifaces, maps, wideKeys, modest, calm, conditions, laid).
  DERIVED. THE GIVEN ROWS OF THIS SEAT. 5 by the template 'for every input the law returns true; each argument reads behind the call as it read before'; 0 by the template 'total and deterministic' (their statements: Qxb6603956aTotals.lean).
  GIVEN WITH THE SEED: the statements are not yours to turn. If you find one false, say at which input.
  Laid BY PROGRAM, IN A SANDBOX (cutbox-rows.mjs): the forced cells as the released guide's own fill.sh prints them over the translation 828c32f258a7dd16… (all of the seat's roots in one cut). By AI agents, Wed Nov 11 2026. No macro, syntax, notation, axiom, sorry.
-/
import Derived.Test.Qxb6603956aChecked
import GoSem.Claim
import GoSem.ClaimJoined
import GoSem.ClaimMapViews
import Derived.JoinedTies
import Derived.KernelRfl
namespace Go.Proofs.Qxb6603956a
/- THE CELL 'sum', in the pinned program and in every row, IS THE sha256 OF THE DUMP (.gsa) THAT Qxb6603956aProg.lean LOADS. Nothing in Lean hashes anything: it is a label: what it is worth is what the hold of that sum in a sandbox is worth. -/
noncomputable def Try.pinned : Pinned := { name := "qxb6603956a", sum := "828c32f258a7dd16d7626dddd8e04782bc40bb70c1bef3a000705c4f261696eb", checked := Try.checked }
namespace Rows
def none {H : Type} : Left H := { results := [], args := [] }

/-- 'zzlaws_root_b1.FnCheckIsTheTableOfBreaches': WHATEVER THE INPUT: true; the input reads as it did. -/
def fnCheckIsTheTableOfBreachesSpec : ChangeSpec := { name := "fnCheckIsTheTableOfBreaches", fn := fun _ => fun
  | [d] => { results := [.lit (.bool true)], args := [d] }
  | _ => none }
def fnCheckIsTheTableOfBreachesRow : OpenClaim := { program := "qxb6603956a", sum := "828c32f258a7dd16d7626dddd8e04782bc40bb70c1bef3a000705c4f261696eb", func := "example.com/pactum/pactum/zzlaws_root_b1.FnCheckIsTheTableOfBreaches", spec := "fnCheckIsTheTableOfBreaches", recurses := true, apart := false }
def FnCheckIsTheTableOfBreachesSaid : Prop := fnCheckIsTheTableOfBreachesRow.holds Try.pinned (OpenSpec.ofChange fnCheckIsTheTableOfBreachesSpec)

/-- ITS FALSE NEIGHBOUR: 'it returns false'. Refute it at one input. -/
def fnCheckIsTheTableOfBreachesWrong : ChangeSpec := { name := "fnCheckIsTheTableOfBreaches", fn := fun _ => fun
  | [d] => { results := [.lit (.bool false)], args := [d] }
  | _ => none }
def FnCheckIsTheTableOfBreachesWrongFalsely : Prop := fnCheckIsTheTableOfBreachesRow.holds Try.pinned (OpenSpec.ofChange fnCheckIsTheTableOfBreachesWrong)

/-- 'zzlaws_root_b1.FnCountSettlesByTheTally': WHATEVER THE INPUT: true; the input reads as it did. -/
def fnCountSettlesByTheTallySpec : ChangeSpec := { name := "fnCountSettlesByTheTally", fn := fun _ => fun
  | [d1, d2, d3, d4] => { results := [.lit (.bool true)], args := [d1, d2, d3, d4] }
  | _ => none }
def fnCountSettlesByTheTallyRow : OpenClaim := { program := "qxb6603956a", sum := "828c32f258a7dd16d7626dddd8e04782bc40bb70c1bef3a000705c4f261696eb", func := "example.com/pactum/pactum/zzlaws_root_b1.FnCountSettlesByTheTally", spec := "fnCountSettlesByTheTally", apart := false }
def FnCountSettlesByTheTallySaid : Prop := fnCountSettlesByTheTallyRow.holds Try.pinned (OpenSpec.ofChange fnCountSettlesByTheTallySpec)

/-- ITS FALSE NEIGHBOUR: 'it returns false'. Refute it at one input. -/
def fnCountSettlesByTheTallyWrong : ChangeSpec := { name := "fnCountSettlesByTheTally", fn := fun _ => fun
  | [d1, d2, d3, d4] => { results := [.lit (.bool false)], args := [d1, d2, d3, d4] }
  | _ => none }
def FnCountSettlesByTheTallyWrongFalsely : Prop := fnCountSettlesByTheTallyRow.holds Try.pinned (OpenSpec.ofChange fnCountSettlesByTheTallyWrong)

/-- 'zzlaws_root_b1.FnCountScriptCommitsOnceOnAllYes': WHATEVER THE INPUT: true; the input reads as it did. -/
def fnCountScriptCommitsOnceOnAllYesSpec : ChangeSpec := { name := "fnCountScriptCommitsOnceOnAllYes", fn := fun _ => fun
  | [d1, d2, d3] => { results := [.lit (.bool true)], args := [d1, d2, d3] }
  | _ => none }
def fnCountScriptCommitsOnceOnAllYesRow : OpenClaim := { program := "qxb6603956a", sum := "828c32f258a7dd16d7626dddd8e04782bc40bb70c1bef3a000705c4f261696eb", func := "example.com/pactum/pactum/zzlaws_root_b1.FnCountScriptCommitsOnceOnAllYes", spec := "fnCountScriptCommitsOnceOnAllYes", apart := false }
def FnCountScriptCommitsOnceOnAllYesSaid : Prop := fnCountScriptCommitsOnceOnAllYesRow.holds Try.pinned (OpenSpec.ofChange fnCountScriptCommitsOnceOnAllYesSpec)

/-- ITS FALSE NEIGHBOUR: 'it returns false'. Refute it at one input. -/
def fnCountScriptCommitsOnceOnAllYesWrong : ChangeSpec := { name := "fnCountScriptCommitsOnceOnAllYes", fn := fun _ => fun
  | [d1, d2, d3] => { results := [.lit (.bool false)], args := [d1, d2, d3] }
  | _ => none }
def FnCountScriptCommitsOnceOnAllYesWrongFalsely : Prop := fnCountScriptCommitsOnceOnAllYesRow.holds Try.pinned (OpenSpec.ofChange fnCountScriptCommitsOnceOnAllYesWrong)

/-- 'zzlaws_root_b1.FnAskRemembersEachAskerOnce': WHATEVER THE INPUT: true; the input reads as it did. -/
def fnAskRemembersEachAskerOnceSpec : ChangeSpec := { name := "fnAskRemembersEachAskerOnce", fn := fun _ => fun
  | [d1, d2, d3, d4, d5, d6, d7, d8] => { results := [.lit (.bool true)], args := [d1, d2, d3, d4, d5, d6, d7, d8] }
  | _ => none }
def fnAskRemembersEachAskerOnceRow : OpenClaim := { program := "qxb6603956a", sum := "828c32f258a7dd16d7626dddd8e04782bc40bb70c1bef3a000705c4f261696eb", func := "example.com/pactum/pactum/zzlaws_root_b1.FnAskRemembersEachAskerOnce", spec := "fnAskRemembersEachAskerOnce", apart := false }
def FnAskRemembersEachAskerOnceSaid : Prop := fnAskRemembersEachAskerOnceRow.holds Try.pinned (OpenSpec.ofChange fnAskRemembersEachAskerOnceSpec)

/-- ITS FALSE NEIGHBOUR: 'it returns false'. Refute it at one input. -/
def fnAskRemembersEachAskerOnceWrong : ChangeSpec := { name := "fnAskRemembersEachAskerOnce", fn := fun _ => fun
  | [d1, d2, d3, d4, d5, d6, d7, d8] => { results := [.lit (.bool false)], args := [d1, d2, d3, d4, d5, d6, d7, d8] }
  | _ => none }
def FnAskRemembersEachAskerOnceWrongFalsely : Prop := fnAskRemembersEachAskerOnceRow.holds Try.pinned (OpenSpec.ofChange fnAskRemembersEachAskerOnceWrong)

/-- 'zzlaws_root_b1.FnAskScriptKeepsFirstAskersInOrder': WHATEVER THE INPUT: true; the input reads as it did. -/
def fnAskScriptKeepsFirstAskersInOrderSpec : ChangeSpec := { name := "fnAskScriptKeepsFirstAskersInOrder", fn := fun _ => fun
  | [d1, d2] => { results := [.lit (.bool true)], args := [d1, d2] }
  | _ => none }
def fnAskScriptKeepsFirstAskersInOrderRow : OpenClaim := { program := "qxb6603956a", sum := "828c32f258a7dd16d7626dddd8e04782bc40bb70c1bef3a000705c4f261696eb", func := "example.com/pactum/pactum/zzlaws_root_b1.FnAskScriptKeepsFirstAskersInOrder", spec := "fnAskScriptKeepsFirstAskersInOrder", apart := false }
def FnAskScriptKeepsFirstAskersInOrderSaid : Prop := fnAskScriptKeepsFirstAskersInOrderRow.holds Try.pinned (OpenSpec.ofChange fnAskScriptKeepsFirstAskersInOrderSpec)

/-- ITS FALSE NEIGHBOUR: 'it returns false'. Refute it at one input. -/
def fnAskScriptKeepsFirstAskersInOrderWrong : ChangeSpec := { name := "fnAskScriptKeepsFirstAskersInOrder", fn := fun _ => fun
  | [d1, d2] => { results := [.lit (.bool false)], args := [d1, d2] }
  | _ => none }
def FnAskScriptKeepsFirstAskersInOrderWrongFalsely : Prop := fnAskScriptKeepsFirstAskersInOrderRow.holds Try.pinned (OpenSpec.ofChange fnAskScriptKeepsFirstAskersInOrderWrong)

end Rows
end Go.Proofs.Qxb6603956a
