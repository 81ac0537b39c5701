/-
  No cell of these rows narrows 'for every input' (looked for: loops, veiled, ifaces, maps, wideKeys, modest, calm, conditions, laid).
  DERIVED. THE GIVEN ROWS OF THIS SEAT. 1 by the template 'for every input the law returns true; each argument reads behind the call as it read before'; 0 by the template 'total and deterministic' (their statements: Qxb6614028aTotals.lean).
  GIVEN WITH THE SEED: the statements are not yours to turn. If you find one false, say at which input.
  Laid BY PROGRAM, IN A SANDBOX (cutbox-rows.mjs): the forced cells as the released guide's own fill.sh prints them over the translation c97b54dc5ed4fd56… (all of the seat's roots in one cut). By AI agents, Wed Nov 11 2026. No macro, syntax, notation, axiom, sorry.
-/
import Derived.Test.Qxb6614028aChecked
import GoSem.Claim
import GoSem.ClaimJoined
import GoSem.ClaimMapViews
import Derived.JoinedTies
import Derived.KernelRfl
namespace Go.Proofs.Qxb6614028a
/- THE CELL 'sum', in the pinned program and in every row, IS THE sha256 OF THE DUMP (.gsa) THAT Qxb6614028aProg.lean LOADS. Nothing in Lean hashes anything: it is a label: what it is worth is what the hold of that sum in a sandbox is worth. -/
noncomputable def Try.pinned : Pinned := { name := "qxb6614028a", sum := "c97b54dc5ed4fd567c578ffba60f3e57b92f2648841e0873ef6a33038a5b1178", checked := Try.checked }
namespace Rows
def none {H : Type} : Left H := { results := [], args := [] }

/-- 'zzlaws_internal_book_b1.FnListsFeeCutInsertRemove': WHATEVER THE INPUT: true; the input reads as it did. -/
def fnListsFeeCutInsertRemoveSpec : ChangeSpec := { name := "fnListsFeeCutInsertRemove", fn := fun _ => fun
  | [d1, d2, d3, d4] => { results := [.lit (.bool true)], args := [d1, d2, d3, d4] }
  | _ => none }
def fnListsFeeCutInsertRemoveRow : OpenClaim := { program := "qxb6614028a", sum := "c97b54dc5ed4fd567c578ffba60f3e57b92f2648841e0873ef6a33038a5b1178", func := "example.com/tuoguan/tuoguan/zzlaws_internal_book_b1.FnListsFeeCutInsertRemove", spec := "fnListsFeeCutInsertRemove", unfollowed := true, recurses := true, apart := false }
def FnListsFeeCutInsertRemoveSaid : Prop := fnListsFeeCutInsertRemoveRow.holds Try.pinned (OpenSpec.ofChange fnListsFeeCutInsertRemoveSpec)

/-- ITS FALSE NEIGHBOUR: 'it returns false'. Refute it at one input. -/
def fnListsFeeCutInsertRemoveWrong : ChangeSpec := { name := "fnListsFeeCutInsertRemove", fn := fun _ => fun
  | [d1, d2, d3, d4] => { results := [.lit (.bool false)], args := [d1, d2, d3, d4] }
  | _ => none }
def FnListsFeeCutInsertRemoveWrongFalsely : Prop := fnListsFeeCutInsertRemoveRow.holds Try.pinned (OpenSpec.ofChange fnListsFeeCutInsertRemoveWrong)

end Rows
end Go.Proofs.Qxb6614028a
