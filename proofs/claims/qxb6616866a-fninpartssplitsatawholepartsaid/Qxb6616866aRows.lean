/-
  No cell of these rows narrows 'for every input' (looked for: loops, veiled, ifaces, maps, wideKeys, modest, calm, conditions, laid).
  DERIVED. THE GIVEN ROWS OF THIS SEAT. 2 by the template 'for every input the law returns true; each argument reads behind the call as it read before'; 0 by the template 'total and deterministic' (their statements: Qxb6616866aTotals.lean).
  GIVEN WITH THE SEED: the statements are not yours to turn. If you find one false, say at which input.
  Laid BY PROGRAM, IN A SANDBOX (cutbox-rows.mjs): the forced cells as the released guide's own fill.sh prints them over the translation b4c3e15b820db86b… (all of the seat's roots in one cut). By AI agents, Wed Nov 11 2026. No macro, syntax, notation, axiom, sorry.
-/
import Derived.Test.Qxb6616866aChecked
import GoSem.Claim
import GoSem.ClaimJoined
import GoSem.ClaimMapViews
import Derived.JoinedTies
import Derived.KernelRfl
namespace Go.Proofs.Qxb6616866a
/- THE CELL 'sum', in the pinned program and in every row, IS THE sha256 OF THE DUMP (.gsa) THAT Qxb6616866aProg.lean LOADS. Nothing in Lean hashes anything: it is a label: what it is worth is what the hold of that sum in a sandbox is worth. -/
noncomputable def Try.pinned : Pinned := { name := "qxb6616866a", sum := "b4c3e15b820db86b6598c6b14ca0305024192640d93ad2f4f934876aee670aaf", checked := Try.checked }
namespace Rows
def none {H : Type} : Left H := { results := [], args := [] }

/-- 'zzlaws_internal_node_b1.FnInPartsSplitsAtAWholePart': WHATEVER THE INPUT: true; the input reads as it did. -/
def fnInPartsSplitsAtAWholePartSpec : ChangeSpec := { name := "fnInPartsSplitsAtAWholePart", fn := fun _ => fun
  | [d1, d2] => { results := [.lit (.bool true)], args := [d1, d2] }
  | _ => none }
def fnInPartsSplitsAtAWholePartRow : OpenClaim := { program := "qxb6616866a", sum := "b4c3e15b820db86b6598c6b14ca0305024192640d93ad2f4f934876aee670aaf", func := "example.com/driftswarm/driftswarm/zzlaws_internal_node_b1.FnInPartsSplitsAtAWholePart", spec := "fnInPartsSplitsAtAWholePart", unfollowed := true, recurses := true, apart := false }
def FnInPartsSplitsAtAWholePartSaid : Prop := fnInPartsSplitsAtAWholePartRow.holds Try.pinned (OpenSpec.ofChange fnInPartsSplitsAtAWholePartSpec)

/-- ITS FALSE NEIGHBOUR: 'it returns false'. Refute it at one input. -/
def fnInPartsSplitsAtAWholePartWrong : ChangeSpec := { name := "fnInPartsSplitsAtAWholePart", fn := fun _ => fun
  | [d1, d2] => { results := [.lit (.bool false)], args := [d1, d2] }
  | _ => none }
def FnInPartsSplitsAtAWholePartWrongFalsely : Prop := fnInPartsSplitsAtAWholePartRow.holds Try.pinned (OpenSpec.ofChange fnInPartsSplitsAtAWholePartWrong)

/-- 'zzlaws_internal_node_b1.FnInPartsOfAPrefix': WHATEVER THE INPUT: true; the input reads as it did. -/
def fnInPartsOfAPrefixSpec : ChangeSpec := { name := "fnInPartsOfAPrefix", fn := fun _ => fun
  | [d1, d2] => { results := [.lit (.bool true)], args := [d1, d2] }
  | _ => none }
def fnInPartsOfAPrefixRow : OpenClaim := { program := "qxb6616866a", sum := "b4c3e15b820db86b6598c6b14ca0305024192640d93ad2f4f934876aee670aaf", func := "example.com/driftswarm/driftswarm/zzlaws_internal_node_b1.FnInPartsOfAPrefix", spec := "fnInPartsOfAPrefix", unfollowed := true, recurses := true, apart := false }
def FnInPartsOfAPrefixSaid : Prop := fnInPartsOfAPrefixRow.holds Try.pinned (OpenSpec.ofChange fnInPartsOfAPrefixSpec)

/-- ITS FALSE NEIGHBOUR: 'it returns false'. Refute it at one input. -/
def fnInPartsOfAPrefixWrong : ChangeSpec := { name := "fnInPartsOfAPrefix", fn := fun _ => fun
  | [d1, d2] => { results := [.lit (.bool false)], args := [d1, d2] }
  | _ => none }
def FnInPartsOfAPrefixWrongFalsely : Prop := fnInPartsOfAPrefixRow.holds Try.pinned (OpenSpec.ofChange fnInPartsOfAPrefixWrong)

end Rows
end Go.Proofs.Qxb6616866a
