/-
  DERIVED. GIVEN WITH THE SEED: THE CARDS: each row of Qxb6604283aDoorRows.lean that lists a variable, with what it lists TIED to the program's text (the seventh form; the later family's looks); each row that meets fmt, with fmt's text TOLD by the authors' own Lean function (tested against real Go, not proved from fmt's source: count such statements apart). THE CARD IS WHAT COUNTS. Prove the row's statement (the work); the ties are given (Qxb6604283aDoorTie.lean); close each card by the builder's one call (the guide's Derived/Test/ToyasCard.lean, 'card_holds'). Laid BY PROGRAM, IN A SANDBOX (cutbox-door.mjs). By AI agents, Wed Nov 11 2026. No macro, syntax, notation, axiom, sorry.
-/
import Derived.Test.Qxb6604283aDoorRows
import GoSem.ClaimSeven
namespace Go.Proofs.Qxb6604283aDoor
namespace Rows

/-- THE TIED CARD OF 'zzlaws_ber_b1.FnOIDStringParsesBack'. -/
def fnOIDStringParsesBackCard : Claim7 := { stood := { row := fnOIDStringParsesBackRow, standIns := [], harness := (true, "47e3f00fd82d8ab73621640dedb3ca2894048a01c85b29d1eebb590b44ec12b5"), looks := false }, kinds := [], alts := [], laidByText := true, laidKinds := [.data, .data, .data], laidTests := true, laidLooks := .later }
def FnOIDStringParsesBackCardSaid : Prop := Claim7.holds Tryd.pinned (.plain (OpenSpec.ofChange fnOIDStringParsesBackSpec)) fnOIDStringParsesBackCard
end Rows
end Go.Proofs.Qxb6604283aDoor
