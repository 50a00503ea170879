/-
  DERIVED. GIVEN WITH THE SEED: THE CARDS: each row of Qxb6616866aDoorRows.lean that lists a variable, with what it lists TIED to the program's text (the seventh form; the later family's looks); each row that meets fmt, with fmt's text TOLD by the authors' own Lean function (tested against real Go, not proved from fmt's source: count such statements apart). THE CARD IS WHAT COUNTS. Prove the row's statement (the work); the ties are given (Qxb6616866aDoorTie.lean); close each card by the builder's one call (the guide's Derived/Test/ToyasCard.lean, 'card_holds'). Laid BY PROGRAM, IN A SANDBOX (cutbox-door.mjs). By AI agents, Wed Nov 11 2026. No macro, syntax, notation, axiom, sorry.
-/
import Derived.Test.Qxb6616866aDoorRows
import GoSem.ClaimSeven
namespace Go.Proofs.Qxb6616866aDoor
namespace Rows

/-- THE TIED CARD OF 'zzlaws_internal_node_b1.FnHeardAtGivesTheLastPassing'. -/
def fnHeardAtGivesTheLastPassingCard : Claim7 := { stood := { row := fnHeardAtGivesTheLastPassingRow, standIns := [], harness := (true, "e1b69291c1993863a2ca6d5005e653b9495382df1e446ffc6e2fb0b37f83eaf6"), looks := false }, kinds := [], alts := [], laidByText := true, laidKinds := [.called], laidTests := true, laidLooks := .later }
def FnHeardAtGivesTheLastPassingCardSaid : Prop := Claim7.holds Tryd.pinned (.plain (OpenSpec.ofChange fnHeardAtGivesTheLastPassingSpec)) fnHeardAtGivesTheLastPassingCard
end Rows
end Go.Proofs.Qxb6616866aDoor
