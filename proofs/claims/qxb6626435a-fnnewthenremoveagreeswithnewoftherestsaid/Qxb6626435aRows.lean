/-
  No cell of these rows narrows 'for every input' (looked for: loops, veiled, ifaces, maps, wideKeys, modest, calm, conditions, laid).
  DERIVED. THE GIVEN ROWS OF THIS SEAT. 2 by the template 'for every input the law returns true; each argument reads behind the call as it read before'; 0 by the template 'total and deterministic' (their statements: Qxb6626435aTotals.lean).
  GIVEN WITH THE SEED: the statements are not yours to turn. If you find one false, say at which input.
  Laid BY PROGRAM, IN A SANDBOX (cutbox-rows.mjs): the forced cells as the released guide's own fill.sh prints them over the translation 21f2cdd0396fffcc… (all of the seat's roots in one cut). By AI agents, Wed Nov 11 2026. No macro, syntax, notation, axiom, sorry.
-/
import Derived.Test.Qxb6626435aChecked
import GoSem.Claim
import GoSem.ClaimJoined
import GoSem.ClaimMapViews
import Derived.JoinedTies
import Derived.KernelRfl
namespace Go.Proofs.Qxb6626435a
/- THE CELL 'sum', in the pinned program and in every row, IS THE sha256 OF THE DUMP (.gsa) THAT Qxb6626435aProg.lean LOADS. Nothing in Lean hashes anything: it is a label: what it is worth is what the hold of that sum in a sandbox is worth. -/
noncomputable def Try.pinned : Pinned := { name := "qxb6626435a", sum := "21f2cdd0396fffccf26169b70afc45d6eb05a793499e5b499e47bf18a7ab2f55", checked := Try.checked }
namespace Rows
def none {H : Type} : Left H := { results := [], args := [] }

/-- 'zzlaws_internal_ring_b1.FnNewIsSortedCopyWithHeadsAndIndex': WHATEVER THE INPUT: true; the input reads as it did. -/
def fnNewIsSortedCopyWithHeadsAndIndexSpec : ChangeSpec := { name := "fnNewIsSortedCopyWithHeadsAndIndex", fn := fun _ => fun
  | [d] => { results := [.lit (.bool true)], args := [d] }
  | _ => none }
def fnNewIsSortedCopyWithHeadsAndIndexRow : OpenClaim := { program := "qxb6626435a", sum := "21f2cdd0396fffccf26169b70afc45d6eb05a793499e5b499e47bf18a7ab2f55", func := "example.com/freshet/freshet/zzlaws_internal_ring_b1.FnNewIsSortedCopyWithHeadsAndIndex", spec := "fnNewIsSortedCopyWithHeadsAndIndex", unfollowed := true, recurses := true, named := ["encoding/binary.BigEndian"], apart := false }
def FnNewIsSortedCopyWithHeadsAndIndexSaid : Prop := fnNewIsSortedCopyWithHeadsAndIndexRow.holds Try.pinned (OpenSpec.ofChange fnNewIsSortedCopyWithHeadsAndIndexSpec)

/-- ITS FALSE NEIGHBOUR: 'it returns false'. Refute it at one input. -/
def fnNewIsSortedCopyWithHeadsAndIndexWrong : ChangeSpec := { name := "fnNewIsSortedCopyWithHeadsAndIndex", fn := fun _ => fun
  | [d] => { results := [.lit (.bool false)], args := [d] }
  | _ => none }
def FnNewIsSortedCopyWithHeadsAndIndexWrongFalsely : Prop := fnNewIsSortedCopyWithHeadsAndIndexRow.holds Try.pinned (OpenSpec.ofChange fnNewIsSortedCopyWithHeadsAndIndexWrong)

/-- 'zzlaws_internal_ring_b1.FnNewThenRemoveAgreesWithNewOfTheRest': WHATEVER THE INPUT: true; the input reads as it did. -/
def fnNewThenRemoveAgreesWithNewOfTheRestSpec : ChangeSpec := { name := "fnNewThenRemoveAgreesWithNewOfTheRest", fn := fun _ => fun
  | [d1, d2] => { results := [.lit (.bool true)], args := [d1, d2] }
  | _ => none }
def fnNewThenRemoveAgreesWithNewOfTheRestRow : OpenClaim := { program := "qxb6626435a", sum := "21f2cdd0396fffccf26169b70afc45d6eb05a793499e5b499e47bf18a7ab2f55", func := "example.com/freshet/freshet/zzlaws_internal_ring_b1.FnNewThenRemoveAgreesWithNewOfTheRest", spec := "fnNewThenRemoveAgreesWithNewOfTheRest", unfollowed := true, recurses := true, named := ["encoding/binary.BigEndian"], apart := false }
def FnNewThenRemoveAgreesWithNewOfTheRestSaid : Prop := fnNewThenRemoveAgreesWithNewOfTheRestRow.holds Try.pinned (OpenSpec.ofChange fnNewThenRemoveAgreesWithNewOfTheRestSpec)

/-- ITS FALSE NEIGHBOUR: 'it returns false'. Refute it at one input. -/
def fnNewThenRemoveAgreesWithNewOfTheRestWrong : ChangeSpec := { name := "fnNewThenRemoveAgreesWithNewOfTheRest", fn := fun _ => fun
  | [d1, d2] => { results := [.lit (.bool false)], args := [d1, d2] }
  | _ => none }
def FnNewThenRemoveAgreesWithNewOfTheRestWrongFalsely : Prop := fnNewThenRemoveAgreesWithNewOfTheRestRow.holds Try.pinned (OpenSpec.ofChange fnNewThenRemoveAgreesWithNewOfTheRestWrong)

end Rows
end Go.Proofs.Qxb6626435a
