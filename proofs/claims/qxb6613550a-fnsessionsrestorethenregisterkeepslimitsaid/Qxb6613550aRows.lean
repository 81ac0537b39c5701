/-
  No cell of these rows narrows 'for every input' (looked for: loops, veiled, ifaces, maps, wideKeys, modest, calm, conditions, laid).
  DERIVED. THE GIVEN ROWS OF THIS SEAT. 2 by the template 'for every input the law returns true; each argument reads behind the call as it read before'; 0 by the template 'total and deterministic' (their statements: Qxb6613550aTotals.lean).
  GIVEN WITH THE SEED: the statements are not yours to turn. If you find one false, say at which input.
  Laid BY PROGRAM, IN A SANDBOX (cutbox-rows.mjs): the forced cells as the released guide's own fill.sh prints them over the translation 9777369cfcc69016… (all of the seat's roots in one cut). By AI agents, Wed Nov 11 2026. No macro, syntax, notation, axiom, sorry.
-/
import Derived.Test.Qxb6613550aChecked
import GoSem.Claim
import GoSem.ClaimJoined
import GoSem.ClaimMapViews
import Derived.JoinedTies
import Derived.KernelRfl
namespace Go.Proofs.Qxb6613550a
/- THE CELL 'sum', in the pinned program and in every row, IS THE sha256 OF THE DUMP (.gsa) THAT Qxb6613550aProg.lean LOADS. Nothing in Lean hashes anything: it is a label: what it is worth is what the hold of that sum in a sandbox is worth. -/
noncomputable def Try.pinned : Pinned := { name := "qxb6613550a", sum := "9777369cfcc69016a70a1641eb97df62d4a9a213ea7219bca6e8610a1aec0bf4", checked := Try.checked }
namespace Rows
def none {H : Type} : Left H := { results := [], args := [] }

/-- 'zzlaws_root_b1.FnSessionsRestoreThenRegisterKeepsLimit': WHATEVER THE INPUT: true; the input reads as it did. -/
def fnSessionsRestoreThenRegisterKeepsLimitSpec : ChangeSpec := { name := "fnSessionsRestoreThenRegisterKeepsLimit", fn := fun _ => fun
  | [d1, d2, d3, d4] => { results := [.lit (.bool true)], args := [d1, d2, d3, d4] }
  | _ => none }
def fnSessionsRestoreThenRegisterKeepsLimitRow : OpenClaim := { program := "qxb6613550a", sum := "9777369cfcc69016a70a1641eb97df62d4a9a213ea7219bca6e8610a1aec0bf4", func := "example.com/coxswain/coxswain/zzlaws_root_b1.FnSessionsRestoreThenRegisterKeepsLimit", spec := "fnSessionsRestoreThenRegisterKeepsLimit", inPlace := ["slices.overlaps[example.com/coxswain/coxswain/internal/btree.entry[uint64, example.com/coxswain/coxswain.Session]]", "slices.overlaps[*example.com/coxswain/coxswain/internal/btree.node[uint64, example.com/coxswain/coxswain.Session]]"], unfollowed := true, recurses := true, apart := false }
def FnSessionsRestoreThenRegisterKeepsLimitSaid : Prop := fnSessionsRestoreThenRegisterKeepsLimitRow.holds Try.pinned (OpenSpec.ofChange fnSessionsRestoreThenRegisterKeepsLimitSpec)

/-- ITS FALSE NEIGHBOUR: 'it returns false'. Refute it at one input. -/
def fnSessionsRestoreThenRegisterKeepsLimitWrong : ChangeSpec := { name := "fnSessionsRestoreThenRegisterKeepsLimit", fn := fun _ => fun
  | [d1, d2, d3, d4] => { results := [.lit (.bool false)], args := [d1, d2, d3, d4] }
  | _ => none }
def FnSessionsRestoreThenRegisterKeepsLimitWrongFalsely : Prop := fnSessionsRestoreThenRegisterKeepsLimitRow.holds Try.pinned (OpenSpec.ofChange fnSessionsRestoreThenRegisterKeepsLimitWrong)

/-- 'zzlaws_root_b1.FnLogSyncBoundRatioBetweenBuckets': WHATEVER THE INPUT: true; the input reads as it did. -/
def fnLogSyncBoundRatioBetweenBucketsSpec : ChangeSpec := { name := "fnLogSyncBoundRatioBetweenBuckets", fn := fun _ => fun
  | [d1, d2] => { results := [.lit (.bool true)], args := [d1, d2] }
  | _ => none }
def fnLogSyncBoundRatioBetweenBucketsRow : OpenClaim := { program := "qxb6613550a", sum := "9777369cfcc69016a70a1641eb97df62d4a9a213ea7219bca6e8610a1aec0bf4", func := "example.com/coxswain/coxswain/zzlaws_root_b1.FnLogSyncBoundRatioBetweenBuckets", spec := "fnLogSyncBoundRatioBetweenBuckets", apart := false }
def FnLogSyncBoundRatioBetweenBucketsSaid : Prop := fnLogSyncBoundRatioBetweenBucketsRow.holds Try.pinned (OpenSpec.ofChange fnLogSyncBoundRatioBetweenBucketsSpec)

/-- ITS FALSE NEIGHBOUR: 'it returns false'. Refute it at one input. -/
def fnLogSyncBoundRatioBetweenBucketsWrong : ChangeSpec := { name := "fnLogSyncBoundRatioBetweenBuckets", fn := fun _ => fun
  | [d1, d2] => { results := [.lit (.bool false)], args := [d1, d2] }
  | _ => none }
def FnLogSyncBoundRatioBetweenBucketsWrongFalsely : Prop := fnLogSyncBoundRatioBetweenBucketsRow.holds Try.pinned (OpenSpec.ofChange fnLogSyncBoundRatioBetweenBucketsWrong)

end Rows
end Go.Proofs.Qxb6613550a
