/-
  No cell of these rows narrows 'for every input' (looked for: loops, veiled, ifaces, maps, wideKeys, modest, calm, conditions, laid).
  DERIVED. THE GIVEN ROWS OF THIS SEAT. 2 by the template 'for every input the law returns true; each argument reads behind the call as it read before'; 0 by the template 'total and deterministic' (their statements: Qxb6604434aTotals.lean).
  GIVEN WITH THE SEED: the statements are not yours to turn. If you find one false, say at which input.
  Laid BY PROGRAM, IN A SANDBOX (cutbox-rows.mjs): the forced cells as the released guide's own fill.sh prints them over the translation 212bf4af8fbb4797… (all of the seat's roots in one cut). By AI agents, Wed Nov 11 2026. No macro, syntax, notation, axiom, sorry.
-/
import Derived.Test.Qxb6604434aChecked
import GoSem.Claim
import GoSem.ClaimJoined
import GoSem.ClaimMapViews
import Derived.JoinedTies
import Derived.KernelRfl
namespace Go.Proofs.Qxb6604434a
/- THE CELL 'sum', in the pinned program and in every row, IS THE sha256 OF THE DUMP (.gsa) THAT Qxb6604434aProg.lean LOADS. Nothing in Lean hashes anything: it is a label: what it is worth is what the hold of that sum in a sandbox is worth. -/
noncomputable def Try.pinned : Pinned := { name := "qxb6604434a", sum := "212bf4af8fbb4797cc9ebaa732b9b4e870f54385edb0eb6e3e8a7100e656c918", checked := Try.checked }
namespace Rows
def none {H : Type} : Left H := { results := [], args := [] }

/-- 'zzlaws_root_b1.FnUpToFreshSymmetric': WHATEVER THE INPUT: true; the input reads as it did. -/
def fnUpToFreshSymmetricSpec : ChangeSpec := { name := "fnUpToFreshSymmetric", fn := fun _ => fun
  | [d1, d2, d3] => { results := [.lit (.bool true)], args := [d1, d2, d3] }
  | _ => none }
def fnUpToFreshSymmetricRow : OpenClaim := { program := "qxb6604434a", sum := "212bf4af8fbb4797cc9ebaa732b9b4e870f54385edb0eb6e3e8a7100e656c918", func := "example.com/ratebook/ratebook/zzlaws_root_b1.FnUpToFreshSymmetric", spec := "fnUpToFreshSymmetric", apart := false }
def FnUpToFreshSymmetricSaid : Prop := fnUpToFreshSymmetricRow.holds Try.pinned (OpenSpec.ofChange fnUpToFreshSymmetricSpec)

/-- ITS FALSE NEIGHBOUR: 'it returns false'. Refute it at one input. -/
def fnUpToFreshSymmetricWrong : ChangeSpec := { name := "fnUpToFreshSymmetric", fn := fun _ => fun
  | [d1, d2, d3] => { results := [.lit (.bool false)], args := [d1, d2, d3] }
  | _ => none }
def FnUpToFreshSymmetricWrongFalsely : Prop := fnUpToFreshSymmetricRow.holds Try.pinned (OpenSpec.ofChange fnUpToFreshSymmetricWrong)

/-- 'zzlaws_root_b1.FnSameInsurerEquivalence': WHATEVER THE INPUT: true; the input reads as it did. -/
def fnSameInsurerEquivalenceSpec : ChangeSpec := { name := "fnSameInsurerEquivalence", fn := fun _ => fun
  | [d1, d2, d3] => { results := [.lit (.bool true)], args := [d1, d2, d3] }
  | _ => none }
def fnSameInsurerEquivalenceRow : OpenClaim := { program := "qxb6604434a", sum := "212bf4af8fbb4797cc9ebaa732b9b4e870f54385edb0eb6e3e8a7100e656c918", func := "example.com/ratebook/ratebook/zzlaws_root_b1.FnSameInsurerEquivalence", spec := "fnSameInsurerEquivalence", apart := false }
def FnSameInsurerEquivalenceSaid : Prop := fnSameInsurerEquivalenceRow.holds Try.pinned (OpenSpec.ofChange fnSameInsurerEquivalenceSpec)

/-- ITS FALSE NEIGHBOUR: 'it returns false'. Refute it at one input. -/
def fnSameInsurerEquivalenceWrong : ChangeSpec := { name := "fnSameInsurerEquivalence", fn := fun _ => fun
  | [d1, d2, d3] => { results := [.lit (.bool false)], args := [d1, d2, d3] }
  | _ => none }
def FnSameInsurerEquivalenceWrongFalsely : Prop := fnSameInsurerEquivalenceRow.holds Try.pinned (OpenSpec.ofChange fnSameInsurerEquivalenceWrong)

end Rows
end Go.Proofs.Qxb6604434a
