/-
  No cell of these rows narrows 'for every input' (looked for: loops, veiled, ifaces, maps, wideKeys, modest, calm, conditions, laid).
  DERIVED. THE GIVEN ROWS OF THIS SEAT. 2 by the template 'for every input the law returns true; each argument reads behind the call as it read before'; 0 by the template 'total and deterministic' (their statements: Qxb6626501aFmtTotals.lean).
  GIVEN WITH THE SEED: the statements are not yours to turn. If you find one false, say at which input.
  Laid BY PROGRAM, IN A SANDBOX (cutbox-rows.mjs): the forced cells as the released guide's own fill.sh prints them over the translation 6c002a1195680cb3… (all of the seat's roots in one cut). By AI agents, Wed Nov 11 2026. No macro, syntax, notation, axiom, sorry.
-/
import Derived.Test.Qxb6626501aFmtChecked
import GoSem.Claim
import GoSem.ClaimJoined
import GoSem.ClaimMapViews
import Derived.JoinedTies
import Derived.KernelRfl
namespace Go.Proofs.Qxb6626501aFmt
/- THE CELL 'sum', in the pinned program and in every row, IS THE sha256 OF THE DUMP (.gsa) THAT Qxb6626501aFmtProg.lean LOADS. Nothing in Lean hashes anything: it is a label: what it is worth is what the hold of that sum in a sandbox is worth. -/
noncomputable def Tryf.pinned : Pinned := { name := "qxb6626501afmt", sum := "6c002a1195680cb33dd37f37e936b9994ba921a264aaa24016f6e11ea708381d", checked := Tryf.checked }
namespace Rows
def none {H : Type} : Left H := { results := [], args := [] }

/-- 'zzlaws_root_b1.FnCheckDelegationMatchesModel': WHATEVER THE INPUT: true; the input reads as it did. -/
def fnCheckDelegationMatchesModelSpec : ChangeSpec := { name := "fnCheckDelegationMatchesModel", fn := fun _ => fun
  | [d1, d2, d3] => { results := [.lit (.bool true)], args := [d1, d2, d3] }
  | _ => none }
def fnCheckDelegationMatchesModelRow : OpenClaim := { program := "qxb6626501afmt", sum := "6c002a1195680cb33dd37f37e936b9994ba921a264aaa24016f6e11ea708381d", func := "example.com/latchkey/latchkey/zzlaws_root_b1.FnCheckDelegationMatchesModel", spec := "fnCheckDelegationMatchesModel", stops := ["fmt.errorf, its operands' methods called", "fmt.Sprintf, its operands' methods called"], inPlace := ["fmt.errorf", "internal/bytealg.abigen_runtime_cmpstring"], unfollowed := true, recurses := true, apart := false }
/-- NO THEOREM (fmt's text is open here; it may be false): for the released tool's asking of the row's closed facts alone. THE STATEMENT IS 'FnCheckDelegationMatchesModelToldSaid' (Qxb6626501aFmtCards.lean). -/
def FnCheckDelegationMatchesModelFormAsk : Prop := fnCheckDelegationMatchesModelRow.holds Tryf.pinned (OpenSpec.ofChange fnCheckDelegationMatchesModelSpec)

/-- ITS FALSE NEIGHBOUR: 'it returns false'. Refute it at one input. -/
def fnCheckDelegationMatchesModelWrong : ChangeSpec := { name := "fnCheckDelegationMatchesModel", fn := fun _ => fun
  | [d1, d2, d3] => { results := [.lit (.bool false)], args := [d1, d2, d3] }
  | _ => none }
def FnCheckDelegationMatchesModelWrongFormAsk : Prop := fnCheckDelegationMatchesModelRow.holds Tryf.pinned (OpenSpec.ofChange fnCheckDelegationMatchesModelWrong)

/-- 'zzlaws_root_b1.FnCheckDelegationCopyAcceptedDropAndActionRefused': WHATEVER THE INPUT: true; the input reads as it did. -/
def fnCheckDelegationCopyAcceptedDropAndActionRefusedSpec : ChangeSpec := { name := "fnCheckDelegationCopyAcceptedDropAndActionRefused", fn := fun _ => fun
  | [d1, d2] => { results := [.lit (.bool true)], args := [d1, d2] }
  | _ => none }
def fnCheckDelegationCopyAcceptedDropAndActionRefusedRow : OpenClaim := { program := "qxb6626501afmt", sum := "6c002a1195680cb33dd37f37e936b9994ba921a264aaa24016f6e11ea708381d", func := "example.com/latchkey/latchkey/zzlaws_root_b1.FnCheckDelegationCopyAcceptedDropAndActionRefused", spec := "fnCheckDelegationCopyAcceptedDropAndActionRefused", stops := ["fmt.errorf, its operands' methods called", "fmt.Sprintf, its operands' methods called"], inPlace := ["fmt.errorf", "internal/bytealg.abigen_runtime_cmpstring"], unfollowed := true, recurses := true, apart := false }
/-- NO THEOREM (fmt's text is open here; it may be false): for the released tool's asking of the row's closed facts alone. THE STATEMENT IS 'FnCheckDelegationCopyAcceptedDropAndActionRefusedToldSaid' (Qxb6626501aFmtCards.lean). -/
def FnCheckDelegationCopyAcceptedDropAndActionRefusedFormAsk : Prop := fnCheckDelegationCopyAcceptedDropAndActionRefusedRow.holds Tryf.pinned (OpenSpec.ofChange fnCheckDelegationCopyAcceptedDropAndActionRefusedSpec)

/-- ITS FALSE NEIGHBOUR: 'it returns false'. Refute it at one input. -/
def fnCheckDelegationCopyAcceptedDropAndActionRefusedWrong : ChangeSpec := { name := "fnCheckDelegationCopyAcceptedDropAndActionRefused", fn := fun _ => fun
  | [d1, d2] => { results := [.lit (.bool false)], args := [d1, d2] }
  | _ => none }
def FnCheckDelegationCopyAcceptedDropAndActionRefusedWrongFormAsk : Prop := fnCheckDelegationCopyAcceptedDropAndActionRefusedRow.holds Tryf.pinned (OpenSpec.ofChange fnCheckDelegationCopyAcceptedDropAndActionRefusedWrong)

end Rows
end Go.Proofs.Qxb6626501aFmt
