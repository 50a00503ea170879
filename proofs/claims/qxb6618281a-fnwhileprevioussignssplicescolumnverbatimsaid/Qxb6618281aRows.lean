/-
  No cell of these rows narrows 'for every input' (looked for: loops, veiled, ifaces, maps, wideKeys, modest, calm, conditions, laid).
  DERIVED. THE GIVEN ROWS OF THIS SEAT. 1 by the template 'for every input the law returns true; each argument reads behind the call as it read before'; 0 by the template 'total and deterministic' (their statements: Qxb6618281aTotals.lean).
  GIVEN WITH THE SEED: the statements are not yours to turn. If you find one false, say at which input.
  Laid BY PROGRAM, IN A SANDBOX (cutbox-rows.mjs): the forced cells as the released guide's own fill.sh prints them over the translation 5fef0097b40f85ee… (all of the seat's roots in one cut). By AI agents, Wed Nov 11 2026. No macro, syntax, notation, axiom, sorry.
-/
import Derived.Test.Qxb6618281aChecked
import GoSem.Claim
import GoSem.ClaimJoined
import GoSem.ClaimMapViews
import Derived.JoinedTies
import Derived.KernelRfl
namespace Go.Proofs.Qxb6618281a
/- THE CELL 'sum', in the pinned program and in every row, IS THE sha256 OF THE DUMP (.gsa) THAT Qxb6618281aProg.lean LOADS. Nothing in Lean hashes anything: it is a label: what it is worth is what the hold of that sum in a sandbox is worth. -/
noncomputable def Try.pinned : Pinned := { name := "qxb6618281a", sum := "5fef0097b40f85ee27a7e659fd5ba29c3cbd3abbbdeea2a14a6ad879265d92a5", checked := Try.checked }
namespace Rows
def none {H : Type} : Left H := { results := [], args := [] }

/-- 'zzlaws_store_b1.FnWhilePreviousSignsSplicesColumnVerbatim': WHATEVER THE INPUT: true; the input reads as it did. -/
def fnWhilePreviousSignsSplicesColumnVerbatimSpec : ChangeSpec := { name := "fnWhilePreviousSignsSplicesColumnVerbatim", fn := fun _ => fun
  | [d1, d2] => { results := [.lit (.bool true)], args := [d1, d2] }
  | _ => none }
def fnWhilePreviousSignsSplicesColumnVerbatimRow : OpenClaim := { program := "qxb6618281a", sum := "5fef0097b40f85ee27a7e659fd5ba29c3cbd3abbbdeea2a14a6ad879265d92a5", func := "example.com/bellwire/bellwire/zzlaws_store_b1.FnWhilePreviousSignsSplicesColumnVerbatim", spec := "fnWhilePreviousSignsSplicesColumnVerbatim", apart := false }
def FnWhilePreviousSignsSplicesColumnVerbatimSaid : Prop := fnWhilePreviousSignsSplicesColumnVerbatimRow.holds Try.pinned (OpenSpec.ofChange fnWhilePreviousSignsSplicesColumnVerbatimSpec)

/-- ITS FALSE NEIGHBOUR: 'it returns false'. Refute it at one input. -/
def fnWhilePreviousSignsSplicesColumnVerbatimWrong : ChangeSpec := { name := "fnWhilePreviousSignsSplicesColumnVerbatim", fn := fun _ => fun
  | [d1, d2] => { results := [.lit (.bool false)], args := [d1, d2] }
  | _ => none }
def FnWhilePreviousSignsSplicesColumnVerbatimWrongFalsely : Prop := fnWhilePreviousSignsSplicesColumnVerbatimRow.holds Try.pinned (OpenSpec.ofChange fnWhilePreviousSignsSplicesColumnVerbatimWrong)

end Rows
end Go.Proofs.Qxb6618281a
