/-
  No cell of these rows narrows 'for every input' (looked for: loops, veiled, ifaces, maps, wideKeys, modest, calm, conditions, laid).
  DERIVED. THE GIVEN ROWS OF THIS SEAT. 2 by the template 'for every input the law returns true; each argument reads behind the call as it read before'; 0 by the template 'total and deterministic' (their statements: Qxb6626891aTotals.lean).
  GIVEN WITH THE SEED: the statements are not yours to turn. If you find one false, say at which input.
  Laid BY PROGRAM, IN A SANDBOX (cutbox-rows.mjs): the forced cells as the released guide's own fill.sh prints them over the translation 2286e39b3cceab32… (all of the seat's roots in one cut). By AI agents, Wed Nov 11 2026. No macro, syntax, notation, axiom, sorry.
-/
import Derived.Test.Qxb6626891aChecked
import GoSem.Claim
import GoSem.ClaimJoined
import GoSem.ClaimMapViews
import Derived.JoinedTies
import Derived.KernelRfl
namespace Go.Proofs.Qxb6626891a
/- THE CELL 'sum', in the pinned program and in every row, IS THE sha256 OF THE DUMP (.gsa) THAT Qxb6626891aProg.lean LOADS. Nothing in Lean hashes anything: it is a label: what it is worth is what the hold of that sum in a sandbox is worth. -/
noncomputable def Try.pinned : Pinned := { name := "qxb6626891a", sum := "2286e39b3cceab3291672965e6a0d15755f1d735d6c254ddfbcf8b7db463b942", checked := Try.checked }
namespace Rows
def none {H : Type} : Left H := { results := [], args := [] }

/-- 'zzlaws_internal_job_b1.FnEnqueueQueueAfterFiresIsFirstOrLastCap': WHATEVER THE INPUT: true; the input reads as it did. -/
def fnEnqueueQueueAfterFiresIsFirstOrLastCapSpec : ChangeSpec := { name := "fnEnqueueQueueAfterFiresIsFirstOrLastCap", fn := fun _ => fun
  | [d1, d2, d3, d4, d5, d6, d7, d8] => { results := [.lit (.bool true)], args := [d1, d2, d3, d4, d5, d6, d7, d8] }
  | _ => none }
def fnEnqueueQueueAfterFiresIsFirstOrLastCapRow : OpenClaim := { program := "qxb6626891a", sum := "2286e39b3cceab3291672965e6a0d15755f1d735d6c254ddfbcf8b7db463b942", func := "example.com/cron3/cron3/zzlaws_internal_job_b1.FnEnqueueQueueAfterFiresIsFirstOrLastCap", spec := "fnEnqueueQueueAfterFiresIsFirstOrLastCap", apart := false }
def FnEnqueueQueueAfterFiresIsFirstOrLastCapSaid : Prop := fnEnqueueQueueAfterFiresIsFirstOrLastCapRow.holds Try.pinned (OpenSpec.ofChange fnEnqueueQueueAfterFiresIsFirstOrLastCapSpec)

/-- ITS FALSE NEIGHBOUR: 'it returns false'. Refute it at one input. -/
def fnEnqueueQueueAfterFiresIsFirstOrLastCapWrong : ChangeSpec := { name := "fnEnqueueQueueAfterFiresIsFirstOrLastCap", fn := fun _ => fun
  | [d1, d2, d3, d4, d5, d6, d7, d8] => { results := [.lit (.bool false)], args := [d1, d2, d3, d4, d5, d6, d7, d8] }
  | _ => none }
def FnEnqueueQueueAfterFiresIsFirstOrLastCapWrongFalsely : Prop := fnEnqueueQueueAfterFiresIsFirstOrLastCapRow.holds Try.pinned (OpenSpec.ofChange fnEnqueueQueueAfterFiresIsFirstOrLastCapWrong)

/-- 'zzlaws_internal_job_b1.FnEnqueueDropNewAndOldAgreeOnCount': WHATEVER THE INPUT: true; the input reads as it did. -/
def fnEnqueueDropNewAndOldAgreeOnCountSpec : ChangeSpec := { name := "fnEnqueueDropNewAndOldAgreeOnCount", fn := fun _ => fun
  | [d1, d2, d3, d4, d5, d6, d7] => { results := [.lit (.bool true)], args := [d1, d2, d3, d4, d5, d6, d7] }
  | _ => none }
def fnEnqueueDropNewAndOldAgreeOnCountRow : OpenClaim := { program := "qxb6626891a", sum := "2286e39b3cceab3291672965e6a0d15755f1d735d6c254ddfbcf8b7db463b942", func := "example.com/cron3/cron3/zzlaws_internal_job_b1.FnEnqueueDropNewAndOldAgreeOnCount", spec := "fnEnqueueDropNewAndOldAgreeOnCount", apart := false }
def FnEnqueueDropNewAndOldAgreeOnCountSaid : Prop := fnEnqueueDropNewAndOldAgreeOnCountRow.holds Try.pinned (OpenSpec.ofChange fnEnqueueDropNewAndOldAgreeOnCountSpec)

/-- ITS FALSE NEIGHBOUR: 'it returns false'. Refute it at one input. -/
def fnEnqueueDropNewAndOldAgreeOnCountWrong : ChangeSpec := { name := "fnEnqueueDropNewAndOldAgreeOnCount", fn := fun _ => fun
  | [d1, d2, d3, d4, d5, d6, d7] => { results := [.lit (.bool false)], args := [d1, d2, d3, d4, d5, d6, d7] }
  | _ => none }
def FnEnqueueDropNewAndOldAgreeOnCountWrongFalsely : Prop := fnEnqueueDropNewAndOldAgreeOnCountRow.holds Try.pinned (OpenSpec.ofChange fnEnqueueDropNewAndOldAgreeOnCountWrong)

end Rows
end Go.Proofs.Qxb6626891a
