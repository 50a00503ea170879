/-
  No cell of these rows narrows 'for every input' (looked for: loops, veiled, ifaces, maps, wideKeys, modest, calm, conditions, laid).
  DERIVED. THE GIVEN ROWS OF THIS SEAT. 2 by the template 'for every input the law returns true; each argument reads behind the call as it read before'; 0 by the template 'total and deterministic' (their statements: Qxb6616830aTotals.lean).
  GIVEN WITH THE SEED: the statements are not yours to turn. If you find one false, say at which input.
  Laid BY PROGRAM, IN A SANDBOX (cutbox-rows.mjs): the forced cells as the released guide's own fill.sh prints them over the translation be44a1577cc6300a… (all of the seat's roots in one cut). By AI agents, Wed Nov 11 2026. No macro, syntax, notation, axiom, sorry.
-/
import Derived.Test.Qxb6616830aChecked
import GoSem.Claim
import GoSem.ClaimJoined
import GoSem.ClaimMapViews
import Derived.JoinedTies
import Derived.KernelRfl
namespace Go.Proofs.Qxb6616830a
/- THE CELL 'sum', in the pinned program and in every row, IS THE sha256 OF THE DUMP (.gsa) THAT Qxb6616830aProg.lean LOADS. Nothing in Lean hashes anything: it is a label: what it is worth is what the hold of that sum in a sandbox is worth. -/
noncomputable def Try.pinned : Pinned := { name := "qxb6616830a", sum := "be44a1577cc6300a4c6cb12f4bbfada15b81d5679cbf24161ff1d8dd42ea410d", checked := Try.checked }
namespace Rows
def none {H : Type} : Left H := { results := [], args := [] }

/-- 'zzlaws_root_b1.FnClockTickCopySharing': WHATEVER THE INPUT: true; the input reads as it did. -/
def fnClockTickCopySharingSpec : ChangeSpec := { name := "fnClockTickCopySharing", fn := fun _ => fun
  | [d1, d2, d3, d4, d5] => { results := [.lit (.bool true)], args := [d1, d2, d3, d4, d5] }
  | _ => none }
def fnClockTickCopySharingRow : OpenClaim := { program := "qxb6616830a", sum := "be44a1577cc6300a4c6cb12f4bbfada15b81d5679cbf24161ff1d8dd42ea410d", func := "example.com/happenstance/happenstance/zzlaws_root_b1.FnClockTickCopySharing", spec := "fnClockTickCopySharing", unfollowed := true, recurses := true, apart := false }
def FnClockTickCopySharingSaid : Prop := fnClockTickCopySharingRow.holds Try.pinned (OpenSpec.ofChange fnClockTickCopySharingSpec)

/-- ITS FALSE NEIGHBOUR: 'it returns false'. Refute it at one input. -/
def fnClockTickCopySharingWrong : ChangeSpec := { name := "fnClockTickCopySharing", fn := fun _ => fun
  | [d1, d2, d3, d4, d5] => { results := [.lit (.bool false)], args := [d1, d2, d3, d4, d5] }
  | _ => none }
def FnClockTickCopySharingWrongFalsely : Prop := fnClockTickCopySharingRow.holds Try.pinned (OpenSpec.ofChange fnClockTickCopySharingWrong)

/-- 'zzlaws_root_b1.FnClockTickMatchesSpec': WHATEVER THE INPUT: true; the input reads as it did. -/
def fnClockTickMatchesSpecSpec : ChangeSpec := { name := "fnClockTickMatchesSpec", fn := fun _ => fun
  | [d1, d2, d3, d4, d5] => { results := [.lit (.bool true)], args := [d1, d2, d3, d4, d5] }
  | _ => none }
def fnClockTickMatchesSpecRow : OpenClaim := { program := "qxb6616830a", sum := "be44a1577cc6300a4c6cb12f4bbfada15b81d5679cbf24161ff1d8dd42ea410d", func := "example.com/happenstance/happenstance/zzlaws_root_b1.FnClockTickMatchesSpec", spec := "fnClockTickMatchesSpec", unfollowed := true, recurses := true, apart := false }
def FnClockTickMatchesSpecSaid : Prop := fnClockTickMatchesSpecRow.holds Try.pinned (OpenSpec.ofChange fnClockTickMatchesSpecSpec)

/-- ITS FALSE NEIGHBOUR: 'it returns false'. Refute it at one input. -/
def fnClockTickMatchesSpecWrong : ChangeSpec := { name := "fnClockTickMatchesSpec", fn := fun _ => fun
  | [d1, d2, d3, d4, d5] => { results := [.lit (.bool false)], args := [d1, d2, d3, d4, d5] }
  | _ => none }
def FnClockTickMatchesSpecWrongFalsely : Prop := fnClockTickMatchesSpecRow.holds Try.pinned (OpenSpec.ofChange fnClockTickMatchesSpecWrong)

end Rows
end Go.Proofs.Qxb6616830a
