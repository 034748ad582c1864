/-
  DERIVED. GIVEN WITH THE SEED: THE CARDS: each row of Qxb6615907aFmtRows.lean that lists a variable, with what it lists TIED to the program's text (the seventh form; the later family's looks); each row that meets fmt, with fmt's text TOLD by the authors' own Lean function (tested against real Go, not proved from fmt's source: count such statements apart). THE CARD IS WHAT COUNTS. Prove the row's statement (the work); the ties are given (Qxb6615907aFmtTie.lean); close each card by the builder's one call (the guide's Derived/Test/ToyasCard.lean, 'card_holds'). Laid BY PROGRAM, IN A SANDBOX (cutbox-door.mjs). By AI agents, Wed Nov 11 2026. No macro, syntax, notation, axiom, sorry.
-/
import Derived.Test.Qxb6615907aFmtRows
import GoSem.ClaimSeven
namespace Go.Proofs.Qxb6615907aFmt
namespace Rows

/-- THE TOLD CARD OF 'zzlaws_root_b1.FnTextSameFromAnyOffset'. -/
def fnTextSameFromAnyOffsetCard : Claim7 := { stood := { row := fnTextSameFromAnyOffsetRow, standIns := [], harness := (true, "4540f6a361846b6289ddc8c98e6c6f17d44910d2bc45447ab4d8371102cdb1db"), looks := false }, told := true, goes := false }
def FnTextSameFromAnyOffsetToldSaid : Prop := Claim7.holds Tryf.pinned (.plain (OpenSpec.ofChange fnTextSameFromAnyOffsetSpec)) fnTextSameFromAnyOffsetCard
/-- ITS FALSE NEIGHBOUR. Refute it at one input. -/
def FnTextSameFromAnyOffsetToldWrongFalsely : Prop := Claim7.holds Tryf.pinned (.plain (OpenSpec.ofChange fnTextSameFromAnyOffsetWrong)) fnTextSameFromAnyOffsetCard

/-- THE TOLD CARD OF 'zzlaws_root_b1.FnTextReadsInTurnAndStopsOnFailure'. -/
def fnTextReadsInTurnAndStopsOnFailureCard : Claim7 := { stood := { row := fnTextReadsInTurnAndStopsOnFailureRow, standIns := [], harness := (true, "4540f6a361846b6289ddc8c98e6c6f17d44910d2bc45447ab4d8371102cdb1db"), looks := false }, told := true, goes := false }
def FnTextReadsInTurnAndStopsOnFailureToldSaid : Prop := Claim7.holds Tryf.pinned (.plain (OpenSpec.ofChange fnTextReadsInTurnAndStopsOnFailureSpec)) fnTextReadsInTurnAndStopsOnFailureCard
/-- ITS FALSE NEIGHBOUR. Refute it at one input. -/
def FnTextReadsInTurnAndStopsOnFailureToldWrongFalsely : Prop := Claim7.holds Tryf.pinned (.plain (OpenSpec.ofChange fnTextReadsInTurnAndStopsOnFailureWrong)) fnTextReadsInTurnAndStopsOnFailureCard
end Rows
end Go.Proofs.Qxb6615907aFmt
