/-
  No cell of these rows narrows 'for every input' (looked for: loops, veiled, ifaces, maps, wideKeys, modest, calm, conditions, laid).
  DERIVED. THE GIVEN ROWS OF THIS SEAT. 2 by the template 'for every input the law returns true; each argument reads behind the call as it read before'; 0 by the template 'total and deterministic' (their statements: Qxb6604505aTotals.lean).
  GIVEN WITH THE SEED: the statements are not yours to turn. If you find one false, say at which input.
  Laid BY PROGRAM, IN A SANDBOX (cutbox-rows.mjs): the forced cells as the released guide's own fill.sh prints them over the translation 4c4e7ab0ad0dad44… (all of the seat's roots in one cut). By AI agents, Wed Nov 11 2026. No macro, syntax, notation, axiom, sorry.
-/
import Derived.Test.Qxb6604505aChecked
import GoSem.Claim
import GoSem.ClaimJoined
import GoSem.ClaimMapViews
import Derived.JoinedTies
import Derived.KernelRfl
namespace Go.Proofs.Qxb6604505a
/- THE CELL 'sum', in the pinned program and in every row, IS THE sha256 OF THE DUMP (.gsa) THAT Qxb6604505aProg.lean LOADS. Nothing in Lean hashes anything: it is a label: what it is worth is what the hold of that sum in a sandbox is worth. -/
noncomputable def Try.pinned : Pinned := { name := "qxb6604505a", sum := "4c4e7ab0ad0dad44028210b9755044dbf1e3af6aae9ecbedd5cda2ff86e12c5c", checked := Try.checked }
namespace Rows
def none {H : Type} : Left H := { results := [], args := [] }

/-- 'zzlaws_root_b1.FnSpanEndRoundTrip': WHATEVER THE INPUT: true; the input reads as it did. -/
def fnSpanEndRoundTripSpec : ChangeSpec := { name := "fnSpanEndRoundTrip", fn := fun _ => fun
  | [d1, d2] => { results := [.lit (.bool true)], args := [d1, d2] }
  | _ => none }
def fnSpanEndRoundTripRow : OpenClaim := { program := "qxb6604505a", sum := "4c4e7ab0ad0dad44028210b9755044dbf1e3af6aae9ecbedd5cda2ff86e12c5c", func := "example.com/spanwood/spanwood/zzlaws_root_b1.FnSpanEndRoundTrip", spec := "fnSpanEndRoundTrip", apart := false }
def FnSpanEndRoundTripSaid : Prop := fnSpanEndRoundTripRow.holds Try.pinned (OpenSpec.ofChange fnSpanEndRoundTripSpec)

/-- ITS FALSE NEIGHBOUR: 'it returns false'. Refute it at one input. -/
def fnSpanEndRoundTripWrong : ChangeSpec := { name := "fnSpanEndRoundTrip", fn := fun _ => fun
  | [d1, d2] => { results := [.lit (.bool false)], args := [d1, d2] }
  | _ => none }
def FnSpanEndRoundTripWrongFalsely : Prop := fnSpanEndRoundTripRow.holds Try.pinned (OpenSpec.ofChange fnSpanEndRoundTripWrong)

/-- 'zzlaws_root_b1.FnSpanEndJoins': WHATEVER THE INPUT: true; the input reads as it did. -/
def fnSpanEndJoinsSpec : ChangeSpec := { name := "fnSpanEndJoins", fn := fun _ => fun
  | [d1, d2, d3] => { results := [.lit (.bool true)], args := [d1, d2, d3] }
  | _ => none }
def fnSpanEndJoinsRow : OpenClaim := { program := "qxb6604505a", sum := "4c4e7ab0ad0dad44028210b9755044dbf1e3af6aae9ecbedd5cda2ff86e12c5c", func := "example.com/spanwood/spanwood/zzlaws_root_b1.FnSpanEndJoins", spec := "fnSpanEndJoins", apart := false }
def FnSpanEndJoinsSaid : Prop := fnSpanEndJoinsRow.holds Try.pinned (OpenSpec.ofChange fnSpanEndJoinsSpec)

/-- ITS FALSE NEIGHBOUR: 'it returns false'. Refute it at one input. -/
def fnSpanEndJoinsWrong : ChangeSpec := { name := "fnSpanEndJoins", fn := fun _ => fun
  | [d1, d2, d3] => { results := [.lit (.bool false)], args := [d1, d2, d3] }
  | _ => none }
def FnSpanEndJoinsWrongFalsely : Prop := fnSpanEndJoinsRow.holds Try.pinned (OpenSpec.ofChange fnSpanEndJoinsWrong)

end Rows
end Go.Proofs.Qxb6604505a
