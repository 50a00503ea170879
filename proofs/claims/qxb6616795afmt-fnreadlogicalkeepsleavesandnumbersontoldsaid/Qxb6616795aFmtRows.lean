/-
  NARROWER THAN 'FOR EVERY INPUT', by the rows' own cells (each row's printed sentence says how): FnReadLogicalKeepsLeavesAndNumbersOn: laid.
  DERIVED. THE GIVEN ROWS OF THIS SEAT. 1 by the template 'for every input the law returns true; each argument reads behind the call as it read before'; 0 by the template 'total and deterministic' (their statements: Qxb6616795aFmtTotals.lean).
  GIVEN WITH THE SEED: the statements are not yours to turn. If you find one false, say at which input.
  Laid BY PROGRAM, IN A SANDBOX (cutbox-rows.mjs): the forced cells as the released guide's own fill.sh prints them over the translation c35577d5dead0411… (all of the seat's roots in one cut). By AI agents, Wed Nov 11 2026. No macro, syntax, notation, axiom, sorry.
-/
import Derived.Test.Qxb6616795aFmtChecked
import GoSem.Claim
import GoSem.ClaimJoined
import GoSem.ClaimMapViews
import Derived.JoinedTies
import Derived.KernelRfl
namespace Go.Proofs.Qxb6616795aFmt
/- THE CELL 'sum', in the pinned program and in every row, IS THE sha256 OF THE DUMP (.gsa) THAT Qxb6616795aFmtProg.lean LOADS. Nothing in Lean hashes anything: it is a label: what it is worth is what the hold of that sum in a sandbox is worth. -/
noncomputable def Tryf.pinned : Pinned := { name := "qxb6616795afmt", sum := "c35577d5dead0411bfb081fb32a36bc178ded3ce26feda81ed43418579de8db8", checked := Tryf.checked }
namespace Rows
def none {H : Type} : Left H := { results := [], args := [] }

/- WHAT THE LISTED PACKAGE-LEVEL VARIABLES READ AS WHEN THE CALL BEGINS. Each datum BY PROGRAM (the guide's laid-datum.mjs) off the statement by which the dump's own 'gosem.cut.vars' lays the variable. In a bare row this is a premise. The card (Qxb6616795aFmtCards.lean) ties it to the program's text. -/
def laid_io_EOF {H : Type} : DataW H := .iface "*errors.errorString" (.ptr (.agg [.lit (.string [69, 79, 70])]))
def laid_io_ErrUnexpectedEOF {H : Type} : DataW H := .iface "*errors.errorString" (.ptr (.agg [.lit (.string [117, 110, 101, 120, 112, 101, 99, 116, 101, 100, 32, 69, 79, 70])]))

/-- 'zzlaws_partition_b1.FnReadLogicalKeepsLeavesAndNumbersOn': WHATEVER THE INPUT: true; the input reads as it did. -/
def fnReadLogicalKeepsLeavesAndNumbersOnSpec : ChangeSpec := { name := "fnReadLogicalKeepsLeavesAndNumbersOn", fn := fun _ => fun
  | [d1, d2, d3, d4, d5, d6, d7, d8, d9, d10] => { results := [.lit (.bool true)], args := [d1, d2, d3, d4, d5, d6, d7, d8, d9, d10] }
  | _ => none }
def fnReadLogicalKeepsLeavesAndNumbersOnRow : OpenClaim := { program := "qxb6616795afmt", sum := "c35577d5dead0411bfb081fb32a36bc178ded3ce26feda81ed43418579de8db8", func := "example.com/murmuration/murmuration/zzlaws_partition_b1.FnReadLogicalKeepsLeavesAndNumbersOn", spec := "fnReadLogicalKeepsLeavesAndNumbersOn", stops := ["fmt.Sprintf, its operands' methods called", "fmt.errorf"], inPlace := ["fmt.errorf", "fmt.Sprintf"], unfollowed := true, recurses := true, named := ["io.EOF", "io.ErrUnexpectedEOF", "encoding/binary.LittleEndian"], apart := false, laid := [("io.EOF", laid_io_EOF), ("io.ErrUnexpectedEOF", laid_io_ErrUnexpectedEOF)] }
/-- NO THEOREM (fmt's text is open here; it may be false): for the released tool's asking of the row's closed facts alone. THE STATEMENT IS 'FnReadLogicalKeepsLeavesAndNumbersOnToldSaid' (Qxb6616795aFmtCards.lean). -/
def FnReadLogicalKeepsLeavesAndNumbersOnFormAsk : Prop := fnReadLogicalKeepsLeavesAndNumbersOnRow.holds Tryf.pinned (OpenSpec.ofChange fnReadLogicalKeepsLeavesAndNumbersOnSpec)

/-- ITS FALSE NEIGHBOUR: 'it returns false'. Refute it at one input. -/
def fnReadLogicalKeepsLeavesAndNumbersOnWrong : ChangeSpec := { name := "fnReadLogicalKeepsLeavesAndNumbersOn", fn := fun _ => fun
  | [d1, d2, d3, d4, d5, d6, d7, d8, d9, d10] => { results := [.lit (.bool false)], args := [d1, d2, d3, d4, d5, d6, d7, d8, d9, d10] }
  | _ => none }
def FnReadLogicalKeepsLeavesAndNumbersOnWrongFormAsk : Prop := fnReadLogicalKeepsLeavesAndNumbersOnRow.holds Tryf.pinned (OpenSpec.ofChange fnReadLogicalKeepsLeavesAndNumbersOnWrong)

end Rows
end Go.Proofs.Qxb6616795aFmt
