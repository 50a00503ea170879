/-
  DERIVED. GIVEN WITH THE SEED: THE CARDS: each row of Qxb6616795aFmtRows.lean that lists a variable, with what it lists TIED to the program's text (the seventh form; the later family's looks); each row that meets fmt, with fmt's text TOLD by the authors' own Lean function (tested against real Go, not proved from fmt's source: count such statements apart). THE CARD IS WHAT COUNTS. Prove the row's statement (the work); the ties are given (Qxb6616795aFmtTie.lean); close each card by the builder's one call (the guide's Derived/Test/ToyasCard.lean, 'card_holds'). Laid BY PROGRAM, IN A SANDBOX (cutbox-door.mjs). By AI agents, Wed Nov 11 2026. No macro, syntax, notation, axiom, sorry.
-/
import Derived.Test.Qxb6616795aFmtRows
import GoSem.ClaimSeven
namespace Go.Proofs.Qxb6616795aFmt
namespace Rows

/-- THE TOLD AND TIED CARD OF 'zzlaws_partition_b1.FnReadLogicalKeepsLeavesAndNumbersOn'. -/
def fnReadLogicalKeepsLeavesAndNumbersOnCard : Claim7 := { stood := { row := fnReadLogicalKeepsLeavesAndNumbersOnRow, standIns := [], harness := (true, "7103dd9dc8881ab68ef5140cf035ceec89e77b84062cbe0e9c7d1e10a115147e"), looks := true }, told := true, laidByText := true, laidKinds := [.sentinel, .sentinel], laidTests := true, laidLooks := .later, goes := false }
def FnReadLogicalKeepsLeavesAndNumbersOnToldSaid : Prop := Claim7.holds Tryf.pinned (.plain (OpenSpec.ofChange fnReadLogicalKeepsLeavesAndNumbersOnSpec)) fnReadLogicalKeepsLeavesAndNumbersOnCard
/-- ITS FALSE NEIGHBOUR. Refute it at one input. -/
def FnReadLogicalKeepsLeavesAndNumbersOnToldWrongFalsely : Prop := Claim7.holds Tryf.pinned (.plain (OpenSpec.ofChange fnReadLogicalKeepsLeavesAndNumbersOnWrong)) fnReadLogicalKeepsLeavesAndNumbersOnCard
end Rows
end Go.Proofs.Qxb6616795aFmt
