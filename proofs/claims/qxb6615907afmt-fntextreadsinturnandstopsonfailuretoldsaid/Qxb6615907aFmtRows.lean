/-
  No cell of these rows narrows 'for every input' (looked for: loops, veiled, ifaces, maps, wideKeys, modest, calm, conditions, laid).
  DERIVED. THE GIVEN ROWS OF THIS SEAT. 2 by the template 'for every input the law returns true; each argument reads behind the call as it read before'; 0 by the template 'total and deterministic' (their statements: Qxb6615907aFmtTotals.lean).
  GIVEN WITH THE SEED: the statements are not yours to turn. If you find one false, say at which input.
  Laid BY PROGRAM, IN A SANDBOX (cutbox-rows.mjs): the forced cells as the released guide's own fill.sh prints them over the translation 24c605f424e215c6… (all of the seat's roots in one cut). By AI agents, Wed Nov 11 2026. No macro, syntax, notation, axiom, sorry.
-/
import Derived.Test.Qxb6615907aFmtChecked
import GoSem.Claim
import GoSem.ClaimJoined
import GoSem.ClaimMapViews
import Derived.JoinedTies
import Derived.KernelRfl
namespace Go.Proofs.Qxb6615907aFmt
/- THE CELL 'sum', in the pinned program and in every row, IS THE sha256 OF THE DUMP (.gsa) THAT Qxb6615907aFmtProg.lean LOADS. Nothing in Lean hashes anything: it is a label: what it is worth is what the hold of that sum in a sandbox is worth. -/
noncomputable def Tryf.pinned : Pinned := { name := "qxb6615907afmt", sum := "24c605f424e215c68da30132dc1ac2e050869587d137df2b482ecafe7264e2be", checked := Tryf.checked }
namespace Rows
def none {H : Type} : Left H := { results := [], args := [] }

/-- 'zzlaws_root_b1.FnTextSameFromAnyOffset': WHATEVER THE INPUT: true; the input reads as it did. -/
def fnTextSameFromAnyOffsetSpec : ChangeSpec := { name := "fnTextSameFromAnyOffset", fn := fun _ => fun
  | [d1, d2] => { results := [.lit (.bool true)], args := [d1, d2] }
  | _ => none }
def fnTextSameFromAnyOffsetRow : OpenClaim := { program := "qxb6615907afmt", sum := "24c605f424e215c68da30132dc1ac2e050869587d137df2b482ecafe7264e2be", func := "example.com/ringlet/ringlet/zzlaws_root_b1.FnTextSameFromAnyOffset", spec := "fnTextSameFromAnyOffset", stops := ["fmt.errorf"], inPlace := ["fmt.errorf"], apart := false }
/-- NO THEOREM (fmt's text is open here; it may be false): for the released tool's asking of the row's closed facts alone. THE STATEMENT IS 'FnTextSameFromAnyOffsetToldSaid' (Qxb6615907aFmtCards.lean). -/
def FnTextSameFromAnyOffsetFormAsk : Prop := fnTextSameFromAnyOffsetRow.holds Tryf.pinned (OpenSpec.ofChange fnTextSameFromAnyOffsetSpec)

/-- ITS FALSE NEIGHBOUR: 'it returns false'. Refute it at one input. -/
def fnTextSameFromAnyOffsetWrong : ChangeSpec := { name := "fnTextSameFromAnyOffset", fn := fun _ => fun
  | [d1, d2] => { results := [.lit (.bool false)], args := [d1, d2] }
  | _ => none }
def FnTextSameFromAnyOffsetWrongFormAsk : Prop := fnTextSameFromAnyOffsetRow.holds Tryf.pinned (OpenSpec.ofChange fnTextSameFromAnyOffsetWrong)

/-- 'zzlaws_root_b1.FnTextReadsInTurnAndStopsOnFailure': WHATEVER THE INPUT: true; the input reads as it did. -/
def fnTextReadsInTurnAndStopsOnFailureSpec : ChangeSpec := { name := "fnTextReadsInTurnAndStopsOnFailure", fn := fun _ => fun
  | [d1, d2] => { results := [.lit (.bool true)], args := [d1, d2] }
  | _ => none }
def fnTextReadsInTurnAndStopsOnFailureRow : OpenClaim := { program := "qxb6615907afmt", sum := "24c605f424e215c68da30132dc1ac2e050869587d137df2b482ecafe7264e2be", func := "example.com/ringlet/ringlet/zzlaws_root_b1.FnTextReadsInTurnAndStopsOnFailure", spec := "fnTextReadsInTurnAndStopsOnFailure", stops := ["fmt.errorf"], inPlace := ["fmt.errorf"], apart := false }
/-- NO THEOREM (fmt's text is open here; it may be false): for the released tool's asking of the row's closed facts alone. THE STATEMENT IS 'FnTextReadsInTurnAndStopsOnFailureToldSaid' (Qxb6615907aFmtCards.lean). -/
def FnTextReadsInTurnAndStopsOnFailureFormAsk : Prop := fnTextReadsInTurnAndStopsOnFailureRow.holds Tryf.pinned (OpenSpec.ofChange fnTextReadsInTurnAndStopsOnFailureSpec)

/-- ITS FALSE NEIGHBOUR: 'it returns false'. Refute it at one input. -/
def fnTextReadsInTurnAndStopsOnFailureWrong : ChangeSpec := { name := "fnTextReadsInTurnAndStopsOnFailure", fn := fun _ => fun
  | [d1, d2] => { results := [.lit (.bool false)], args := [d1, d2] }
  | _ => none }
def FnTextReadsInTurnAndStopsOnFailureWrongFormAsk : Prop := fnTextReadsInTurnAndStopsOnFailureRow.holds Tryf.pinned (OpenSpec.ofChange fnTextReadsInTurnAndStopsOnFailureWrong)

end Rows
end Go.Proofs.Qxb6615907aFmt
