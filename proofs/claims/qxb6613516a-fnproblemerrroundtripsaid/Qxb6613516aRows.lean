/-
  No cell of these rows narrows 'for every input' (looked for: loops, veiled, ifaces, maps, wideKeys, modest, calm, conditions, laid).
  DERIVED. THE GIVEN ROWS OF THIS SEAT. 2 by the template 'for every input the law returns true; each argument reads behind the call as it read before'; 0 by the template 'total and deterministic' (their statements: Qxb6613516aTotals.lean).
  GIVEN WITH THE SEED: the statements are not yours to turn. If you find one false, say at which input.
  Laid BY PROGRAM, IN A SANDBOX (cutbox-rows.mjs): the forced cells as the released guide's own fill.sh prints them over the translation 3d21b7651291842a… (all of the seat's roots in one cut). By AI agents, Wed Nov 11 2026. No macro, syntax, notation, axiom, sorry.
-/
import Derived.Test.Qxb6613516aChecked
import GoSem.Claim
import GoSem.ClaimJoined
import GoSem.ClaimMapViews
import Derived.JoinedTies
import Derived.KernelRfl
namespace Go.Proofs.Qxb6613516a
/- THE CELL 'sum', in the pinned program and in every row, IS THE sha256 OF THE DUMP (.gsa) THAT Qxb6613516aProg.lean LOADS. Nothing in Lean hashes anything: it is a label: what it is worth is what the hold of that sum in a sandbox is worth. -/
noncomputable def Try.pinned : Pinned := { name := "qxb6613516a", sum := "3d21b7651291842a38c6a0d57462185b5338ac81e55900c21aae7e99dd08fb93", checked := Try.checked }
namespace Rows
def none {H : Type} : Left H := { results := [], args := [] }

/-- 'zzlaws_internal_fault_b1.FnProblemErrRoundTrip': WHATEVER THE INPUT: true; the input reads as it did. -/
def fnProblemErrRoundTripSpec : ChangeSpec := { name := "fnProblemErrRoundTrip", fn := fun _ => fun
  | [d1, d2, d3, d4] => { results := [.lit (.bool true)], args := [d1, d2, d3, d4] }
  | _ => none }
def fnProblemErrRoundTripRow : OpenClaim := { program := "qxb6613516a", sum := "3d21b7651291842a38c6a0d57462185b5338ac81e55900c21aae7e99dd08fb93", func := "example.com/moltgate/moltgate/zzlaws_internal_fault_b1.FnProblemErrRoundTrip", spec := "fnProblemErrRoundTrip", unfollowed := true, recurses := true, apart := false }
def FnProblemErrRoundTripSaid : Prop := fnProblemErrRoundTripRow.holds Try.pinned (OpenSpec.ofChange fnProblemErrRoundTripSpec)

/-- ITS FALSE NEIGHBOUR: 'it returns false'. Refute it at one input. -/
def fnProblemErrRoundTripWrong : ChangeSpec := { name := "fnProblemErrRoundTrip", fn := fun _ => fun
  | [d1, d2, d3, d4] => { results := [.lit (.bool false)], args := [d1, d2, d3, d4] }
  | _ => none }
def FnProblemErrRoundTripWrongFalsely : Prop := fnProblemErrRoundTripRow.holds Try.pinned (OpenSpec.ofChange fnProblemErrRoundTripWrong)

/-- 'zzlaws_internal_fault_b1.FnProblemErrKeepsCause': WHATEVER THE INPUT: true; the input reads as it did. -/
def fnProblemErrKeepsCauseSpec : ChangeSpec := { name := "fnProblemErrKeepsCause", fn := fun _ => fun
  | [d1, d2, d3, d4, d5] => { results := [.lit (.bool true)], args := [d1, d2, d3, d4, d5] }
  | _ => none }
def fnProblemErrKeepsCauseRow : OpenClaim := { program := "qxb6613516a", sum := "3d21b7651291842a38c6a0d57462185b5338ac81e55900c21aae7e99dd08fb93", func := "example.com/moltgate/moltgate/zzlaws_internal_fault_b1.FnProblemErrKeepsCause", spec := "fnProblemErrKeepsCause", unfollowed := true, recurses := true, apart := false }
def FnProblemErrKeepsCauseSaid : Prop := fnProblemErrKeepsCauseRow.holds Try.pinned (OpenSpec.ofChange fnProblemErrKeepsCauseSpec)

/-- ITS FALSE NEIGHBOUR: 'it returns false'. Refute it at one input. -/
def fnProblemErrKeepsCauseWrong : ChangeSpec := { name := "fnProblemErrKeepsCause", fn := fun _ => fun
  | [d1, d2, d3, d4, d5] => { results := [.lit (.bool false)], args := [d1, d2, d3, d4, d5] }
  | _ => none }
def FnProblemErrKeepsCauseWrongFalsely : Prop := fnProblemErrKeepsCauseRow.holds Try.pinned (OpenSpec.ofChange fnProblemErrKeepsCauseWrong)

end Rows
end Go.Proofs.Qxb6613516a
