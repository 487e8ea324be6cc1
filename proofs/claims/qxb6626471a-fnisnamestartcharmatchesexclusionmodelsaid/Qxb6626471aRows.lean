/-
  No cell of these rows narrows 'for every input' (looked for: loops, veiled, ifaces, maps, wideKeys, modest, calm, conditions, laid).
  DERIVED. THE GIVEN ROWS OF THIS SEAT. 2 by the template 'for every input the law returns true; each argument reads behind the call as it read before'; 0 by the template 'total and deterministic' (their statements: Qxb6626471aTotals.lean).
  GIVEN WITH THE SEED: the statements are not yours to turn. If you find one false, say at which input.
  Laid BY PROGRAM, IN A SANDBOX (cutbox-rows.mjs): the forced cells as the released guide's own fill.sh prints them over the translation f778531089904d06… (all of the seat's roots in one cut). By AI agents, Wed Nov 11 2026. No macro, syntax, notation, axiom, sorry.
-/
import Derived.Test.Qxb6626471aChecked
import GoSem.Claim
import GoSem.ClaimJoined
import GoSem.ClaimMapViews
import Derived.JoinedTies
import Derived.KernelRfl
namespace Go.Proofs.Qxb6626471a
/- THE CELL 'sum', in the pinned program and in every row, IS THE sha256 OF THE DUMP (.gsa) THAT Qxb6626471aProg.lean LOADS. Nothing in Lean hashes anything: it is a label: what it is worth is what the hold of that sum in a sandbox is worth. -/
noncomputable def Try.pinned : Pinned := { name := "qxb6626471a", sum := "f778531089904d067b64d81a00a94f02dd41f21b2841f5484ec03632ebfb347d", checked := Try.checked }
namespace Rows
def none {H : Type} : Left H := { results := [], args := [] }

/-- 'zzlaws_pkg_rdf_b1.FnIsNameStartCharMatchesExclusionModel': WHATEVER THE INPUT: true; the input reads as it did. -/
def fnIsNameStartCharMatchesExclusionModelSpec : ChangeSpec := { name := "fnIsNameStartCharMatchesExclusionModel", fn := fun _ => fun
  | [d] => { results := [.lit (.bool true)], args := [d] }
  | _ => none }
def fnIsNameStartCharMatchesExclusionModelRow : OpenClaim := { program := "qxb6626471a", sum := "f778531089904d067b64d81a00a94f02dd41f21b2841f5484ec03632ebfb347d", func := "example.com/firm-policy/firm-policy/zzlaws_pkg_rdf_b1.FnIsNameStartCharMatchesExclusionModel", spec := "fnIsNameStartCharMatchesExclusionModel", apart := false }
def FnIsNameStartCharMatchesExclusionModelSaid : Prop := fnIsNameStartCharMatchesExclusionModelRow.holds Try.pinned (OpenSpec.ofChange fnIsNameStartCharMatchesExclusionModelSpec)

/-- ITS FALSE NEIGHBOUR: 'it returns false'. Refute it at one input. -/
def fnIsNameStartCharMatchesExclusionModelWrong : ChangeSpec := { name := "fnIsNameStartCharMatchesExclusionModel", fn := fun _ => fun
  | [d] => { results := [.lit (.bool false)], args := [d] }
  | _ => none }
def FnIsNameStartCharMatchesExclusionModelWrongFalsely : Prop := fnIsNameStartCharMatchesExclusionModelRow.holds Try.pinned (OpenSpec.ofChange fnIsNameStartCharMatchesExclusionModelWrong)

/-- 'zzlaws_pkg_rdf_b1.FnIsNameStartCharChangesOnlyAtRunEnds': WHATEVER THE INPUT: true; the input reads as it did. -/
def fnIsNameStartCharChangesOnlyAtRunEndsSpec : ChangeSpec := { name := "fnIsNameStartCharChangesOnlyAtRunEnds", fn := fun _ => fun
  | [d] => { results := [.lit (.bool true)], args := [d] }
  | _ => none }
def fnIsNameStartCharChangesOnlyAtRunEndsRow : OpenClaim := { program := "qxb6626471a", sum := "f778531089904d067b64d81a00a94f02dd41f21b2841f5484ec03632ebfb347d", func := "example.com/firm-policy/firm-policy/zzlaws_pkg_rdf_b1.FnIsNameStartCharChangesOnlyAtRunEnds", spec := "fnIsNameStartCharChangesOnlyAtRunEnds", apart := false }
def FnIsNameStartCharChangesOnlyAtRunEndsSaid : Prop := fnIsNameStartCharChangesOnlyAtRunEndsRow.holds Try.pinned (OpenSpec.ofChange fnIsNameStartCharChangesOnlyAtRunEndsSpec)

/-- ITS FALSE NEIGHBOUR: 'it returns false'. Refute it at one input. -/
def fnIsNameStartCharChangesOnlyAtRunEndsWrong : ChangeSpec := { name := "fnIsNameStartCharChangesOnlyAtRunEnds", fn := fun _ => fun
  | [d] => { results := [.lit (.bool false)], args := [d] }
  | _ => none }
def FnIsNameStartCharChangesOnlyAtRunEndsWrongFalsely : Prop := fnIsNameStartCharChangesOnlyAtRunEndsRow.holds Try.pinned (OpenSpec.ofChange fnIsNameStartCharChangesOnlyAtRunEndsWrong)

end Rows
end Go.Proofs.Qxb6626471a
