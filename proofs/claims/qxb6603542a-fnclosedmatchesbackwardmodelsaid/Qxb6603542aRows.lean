/-
  No cell of these rows narrows 'for every input' (looked for: loops, veiled, ifaces, maps, wideKeys, modest, calm, conditions, laid).
  DERIVED. THE GIVEN ROWS OF THIS SEAT. 2 by the template 'for every input the law returns true; each argument reads behind the call as it read before'; 0 by the template 'total and deterministic' (their statements: Qxb6603542aTotals.lean).
  GIVEN WITH THE SEED: the statements are not yours to turn. If you find one false, say at which input.
  Laid BY PROGRAM, IN A SANDBOX (cutbox-rows.mjs): the forced cells as the released guide's own fill.sh prints them over the translation a96917a5811fbdc7… (all of the seat's roots in one cut). By AI agents, Wed Nov 11 2026. No macro, syntax, notation, axiom, sorry.
-/
import Derived.Test.Qxb6603542aChecked
import GoSem.Claim
import GoSem.ClaimJoined
import GoSem.ClaimMapViews
import Derived.JoinedTies
import Derived.KernelRfl
namespace Go.Proofs.Qxb6603542a
/- THE CELL 'sum', in the pinned program and in every row, IS THE sha256 OF THE DUMP (.gsa) THAT Qxb6603542aProg.lean LOADS. Nothing in Lean hashes anything: it is a label: what it is worth is what the hold of that sum in a sandbox is worth. -/
noncomputable def Try.pinned : Pinned := { name := "qxb6603542a", sum := "a96917a5811fbdc706745feda49eb700a62fa2e522f97545641dcf8b8cb74ced", checked := Try.checked }
namespace Rows
def none {H : Type} : Left H := { results := [], args := [] }

/-- 'zzlaws_schedule_b1.FnClosedMatchesBackwardModel': WHATEVER THE INPUT: true; the input reads as it did. -/
def fnClosedMatchesBackwardModelSpec : ChangeSpec := { name := "fnClosedMatchesBackwardModel", fn := fun _ => fun
  | [d] => { results := [.lit (.bool true)], args := [d] }
  | _ => none }
def fnClosedMatchesBackwardModelRow : OpenClaim := { program := "qxb6603542a", sum := "a96917a5811fbdc706745feda49eb700a62fa2e522f97545641dcf8b8cb74ced", func := "example.com/interlace/interlace/zzlaws_schedule_b1.FnClosedMatchesBackwardModel", spec := "fnClosedMatchesBackwardModel", plainKeys := false, apart := false }
def FnClosedMatchesBackwardModelSaid : Prop := fnClosedMatchesBackwardModelRow.holds Try.pinned (OpenSpec.ofChange fnClosedMatchesBackwardModelSpec)

/-- ITS FALSE NEIGHBOUR: 'it returns false'. Refute it at one input. -/
def fnClosedMatchesBackwardModelWrong : ChangeSpec := { name := "fnClosedMatchesBackwardModel", fn := fun _ => fun
  | [d] => { results := [.lit (.bool false)], args := [d] }
  | _ => none }
def FnClosedMatchesBackwardModelWrongFalsely : Prop := fnClosedMatchesBackwardModelRow.holds Try.pinned (OpenSpec.ofChange fnClosedMatchesBackwardModelWrong)

/-- 'zzlaws_schedule_b1.FnClosedIdempotentAndCountsOpenAttempts': WHATEVER THE INPUT: true; the input reads as it did. -/
def fnClosedIdempotentAndCountsOpenAttemptsSpec : ChangeSpec := { name := "fnClosedIdempotentAndCountsOpenAttempts", fn := fun _ => fun
  | [d] => { results := [.lit (.bool true)], args := [d] }
  | _ => none }
def fnClosedIdempotentAndCountsOpenAttemptsRow : OpenClaim := { program := "qxb6603542a", sum := "a96917a5811fbdc706745feda49eb700a62fa2e522f97545641dcf8b8cb74ced", func := "example.com/interlace/interlace/zzlaws_schedule_b1.FnClosedIdempotentAndCountsOpenAttempts", spec := "fnClosedIdempotentAndCountsOpenAttempts", plainKeys := false, apart := false }
def FnClosedIdempotentAndCountsOpenAttemptsSaid : Prop := fnClosedIdempotentAndCountsOpenAttemptsRow.holds Try.pinned (OpenSpec.ofChange fnClosedIdempotentAndCountsOpenAttemptsSpec)

/-- ITS FALSE NEIGHBOUR: 'it returns false'. Refute it at one input. -/
def fnClosedIdempotentAndCountsOpenAttemptsWrong : ChangeSpec := { name := "fnClosedIdempotentAndCountsOpenAttempts", fn := fun _ => fun
  | [d] => { results := [.lit (.bool false)], args := [d] }
  | _ => none }
def FnClosedIdempotentAndCountsOpenAttemptsWrongFalsely : Prop := fnClosedIdempotentAndCountsOpenAttemptsRow.holds Try.pinned (OpenSpec.ofChange fnClosedIdempotentAndCountsOpenAttemptsWrong)

end Rows
end Go.Proofs.Qxb6603542a
