/-
  DERIVED. GIVEN WITH THE SEED: THE CARDS: each row of Qxb6626501aFmtRows.lean that lists a variable, with what it lists TIED to the program's text (the seventh form; the later family's looks); each row that meets fmt, with fmt's text TOLD by the authors' own Lean function (tested against real Go, not proved from fmt's source: count such statements apart). THE CARD IS WHAT COUNTS. Prove the row's statement (the work); the ties are given (Qxb6626501aFmtTie.lean); close each card by the builder's one call (the guide's Derived/Test/ToyasCard.lean, 'card_holds'). Laid BY PROGRAM, IN A SANDBOX (cutbox-door.mjs). By AI agents, Wed Nov 11 2026. No macro, syntax, notation, axiom, sorry.
-/
import Derived.Test.Qxb6626501aFmtRows
import GoSem.ClaimSeven
namespace Go.Proofs.Qxb6626501aFmt
namespace Rows

/-- THE TOLD CARD OF 'zzlaws_root_b1.FnCheckDelegationMatchesModel'. -/
def fnCheckDelegationMatchesModelCard : Claim7 := { stood := { row := fnCheckDelegationMatchesModelRow, standIns := [], harness := (true, "5ffe92faea2acb99b66fba297141d3850f18c678f8ceb50a60a70071bb8ff54e"), looks := true }, told := true, goes := false }
def FnCheckDelegationMatchesModelToldSaid : Prop := Claim7.holds Tryf.pinned (.plain (OpenSpec.ofChange fnCheckDelegationMatchesModelSpec)) fnCheckDelegationMatchesModelCard
/-- ITS FALSE NEIGHBOUR. Refute it at one input. -/
def FnCheckDelegationMatchesModelToldWrongFalsely : Prop := Claim7.holds Tryf.pinned (.plain (OpenSpec.ofChange fnCheckDelegationMatchesModelWrong)) fnCheckDelegationMatchesModelCard

/-- THE TOLD CARD OF 'zzlaws_root_b1.FnCheckDelegationCopyAcceptedDropAndActionRefused'. -/
def fnCheckDelegationCopyAcceptedDropAndActionRefusedCard : Claim7 := { stood := { row := fnCheckDelegationCopyAcceptedDropAndActionRefusedRow, standIns := [], harness := (true, "5ffe92faea2acb99b66fba297141d3850f18c678f8ceb50a60a70071bb8ff54e"), looks := true }, told := true, goes := false }
def FnCheckDelegationCopyAcceptedDropAndActionRefusedToldSaid : Prop := Claim7.holds Tryf.pinned (.plain (OpenSpec.ofChange fnCheckDelegationCopyAcceptedDropAndActionRefusedSpec)) fnCheckDelegationCopyAcceptedDropAndActionRefusedCard
/-- ITS FALSE NEIGHBOUR. Refute it at one input. -/
def FnCheckDelegationCopyAcceptedDropAndActionRefusedToldWrongFalsely : Prop := Claim7.holds Tryf.pinned (.plain (OpenSpec.ofChange fnCheckDelegationCopyAcceptedDropAndActionRefusedWrong)) fnCheckDelegationCopyAcceptedDropAndActionRefusedCard
end Rows
end Go.Proofs.Qxb6626501aFmt
