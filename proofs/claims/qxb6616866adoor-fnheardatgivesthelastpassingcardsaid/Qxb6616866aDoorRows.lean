/-
  NARROWER THAN 'FOR EVERY INPUT', by the rows' own cells (each row's printed sentence says how): FnHeardAtGivesTheLastPassing: laid.
  DERIVED. THE GIVEN ROWS OF THIS SEAT. 1 by the template 'for every input the law returns true; each argument reads behind the call as it read before'; 0 by the template 'total and deterministic' (their statements: Qxb6616866aDoorTotals.lean).
  GIVEN WITH THE SEED: the statements are not yours to turn. If you find one false, say at which input.
  Laid BY PROGRAM, IN A SANDBOX (cutbox-rows.mjs): the forced cells as the released guide's own fill.sh prints them over the translation 9627a6373df906e4… (all of the seat's roots in one cut). By AI agents, Wed Nov 11 2026. No macro, syntax, notation, axiom, sorry.
-/
import Derived.Test.Qxb6616866aDoorChecked
import GoSem.Claim
import GoSem.ClaimJoined
import GoSem.ClaimMapViews
import Derived.JoinedTies
import Derived.KernelRfl
namespace Go.Proofs.Qxb6616866aDoor
/- THE CELL 'sum', in the pinned program and in every row, IS THE sha256 OF THE DUMP (.gsa) THAT Qxb6616866aDoorProg.lean LOADS. Nothing in Lean hashes anything: it is a label: what it is worth is what the hold of that sum in a sandbox is worth. -/
noncomputable def Tryd.pinned : Pinned := { name := "qxb6616866adoor", sum := "9627a6373df906e4eae6d05bc2efb892c092836a77158583e9e36d5a128be642", checked := Tryd.checked }
namespace Rows
def none {H : Type} : Left H := { results := [], args := [] }

/- WHAT THE LISTED PACKAGE-LEVEL VARIABLES READ AS WHEN THE CALL BEGINS. Each datum BY PROGRAM (the guide's laid-datum.mjs) off the statement by which the dump's own 'gosem.cut.vars' lays the variable. In a bare row this is a premise. The card (Qxb6616866aDoorCards.lean) ties it to the program's text. -/
def laid_net_netip_z4 {H : Type} : DataW H := .agg [.ptr (.agg [.lit (.bool false), .lit (.string [])])]

/-- 'zzlaws_internal_node_b1.FnHeardAtGivesTheLastPassing': WHATEVER THE INPUT: true; the input reads as it did. -/
def fnHeardAtGivesTheLastPassingSpec : ChangeSpec := { name := "fnHeardAtGivesTheLastPassing", fn := fun _ => fun
  | [d1, d2, d3, d4, d5] => { results := [.lit (.bool true)], args := [d1, d2, d3, d4, d5] }
  | _ => none }
def fnHeardAtGivesTheLastPassingRow : OpenClaim := { program := "qxb6616866adoor", sum := "9627a6373df906e4eae6d05bc2efb892c092836a77158583e9e36d5a128be642", func := "example.com/driftswarm/driftswarm/zzlaws_internal_node_b1.FnHeardAtGivesTheLastPassing", spec := "fnHeardAtGivesTheLastPassing", named := ["net/netip.z4"], plainKeys := false, apart := false, laid := [("net/netip.z4", laid_net_netip_z4)] }
def FnHeardAtGivesTheLastPassingSaid : Prop := fnHeardAtGivesTheLastPassingRow.holds Tryd.pinned (OpenSpec.ofChange fnHeardAtGivesTheLastPassingSpec)

/-- ITS FALSE NEIGHBOUR: 'it returns false'. Refute it at one input. -/
def fnHeardAtGivesTheLastPassingWrong : ChangeSpec := { name := "fnHeardAtGivesTheLastPassing", fn := fun _ => fun
  | [d1, d2, d3, d4, d5] => { results := [.lit (.bool false)], args := [d1, d2, d3, d4, d5] }
  | _ => none }
def FnHeardAtGivesTheLastPassingWrongFalsely : Prop := fnHeardAtGivesTheLastPassingRow.holds Tryd.pinned (OpenSpec.ofChange fnHeardAtGivesTheLastPassingWrong)

end Rows
end Go.Proofs.Qxb6616866aDoor
