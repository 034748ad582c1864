/-
  No cell of these rows narrows 'for every input' (looked for: loops, veiled, ifaces, maps, wideKeys, modest, calm, conditions, laid).
  DERIVED. THE GIVEN ROWS OF THIS SEAT. 2 by the template 'for every input the law returns true; each argument reads behind the call as it read before'; 0 by the template 'total and deterministic' (their statements: Qxb6609015aTotals.lean).
  GIVEN WITH THE SEED: the statements are not yours to turn. If you find one false, say at which input.
  Laid BY PROGRAM, IN A SANDBOX (cutbox-rows.mjs): the forced cells as the released guide's own fill.sh prints them over the translation 3046426fa9e86a5e… (all of the seat's roots in one cut). By AI agents, Wed Nov 11 2026. No macro, syntax, notation, axiom, sorry.
-/
import Derived.Test.Qxb6609015aChecked
import GoSem.Claim
import GoSem.ClaimJoined
import GoSem.ClaimMapViews
import Derived.JoinedTies
import Derived.KernelRfl
namespace Go.Proofs.Qxb6609015a
/- THE CELL 'sum', in the pinned program and in every row, IS THE sha256 OF THE DUMP (.gsa) THAT Qxb6609015aProg.lean LOADS. Nothing in Lean hashes anything: it is a label: what it is worth is what the hold of that sum in a sandbox is worth. -/
noncomputable def Try.pinned : Pinned := { name := "qxb6609015a", sum := "3046426fa9e86a5ef3bfd5aa72e6af228f2a802a20f8f06135cc39dde18497e8", checked := Try.checked }
namespace Rows
def none {H : Type} : Left H := { results := [], args := [] }

/-- 'zzlaws_root_b1.FnReachableIsBreadthFirstOrderOfReach': WHATEVER THE INPUT: true; the input reads as it did. -/
def fnReachableIsBreadthFirstOrderOfReachSpec : ChangeSpec := { name := "fnReachableIsBreadthFirstOrderOfReach", fn := fun _ => fun
  | [d1, d2, d3] => { results := [.lit (.bool true)], args := [d1, d2, d3] }
  | _ => none }
def fnReachableIsBreadthFirstOrderOfReachRow : OpenClaim := { program := "qxb6609015a", sum := "3046426fa9e86a5ef3bfd5aa72e6af228f2a802a20f8f06135cc39dde18497e8", func := "example.com/grantline/grantline/zzlaws_root_b1.FnReachableIsBreadthFirstOrderOfReach", spec := "fnReachableIsBreadthFirstOrderOfReach", apart := false }
def FnReachableIsBreadthFirstOrderOfReachSaid : Prop := fnReachableIsBreadthFirstOrderOfReachRow.holds Try.pinned (OpenSpec.ofChange fnReachableIsBreadthFirstOrderOfReachSpec)

/-- ITS FALSE NEIGHBOUR: 'it returns false'. Refute it at one input. -/
def fnReachableIsBreadthFirstOrderOfReachWrong : ChangeSpec := { name := "fnReachableIsBreadthFirstOrderOfReach", fn := fun _ => fun
  | [d1, d2, d3] => { results := [.lit (.bool false)], args := [d1, d2, d3] }
  | _ => none }
def FnReachableIsBreadthFirstOrderOfReachWrongFalsely : Prop := fnReachableIsBreadthFirstOrderOfReachRow.holds Try.pinned (OpenSpec.ofChange fnReachableIsBreadthFirstOrderOfReachWrong)

/-- 'zzlaws_root_b1.FnReachableUnderFreshRoot': WHATEVER THE INPUT: true; the input reads as it did. -/
def fnReachableUnderFreshRootSpec : ChangeSpec := { name := "fnReachableUnderFreshRoot", fn := fun _ => fun
  | [d1, d2, d3] => { results := [.lit (.bool true)], args := [d1, d2, d3] }
  | _ => none }
def fnReachableUnderFreshRootRow : OpenClaim := { program := "qxb6609015a", sum := "3046426fa9e86a5ef3bfd5aa72e6af228f2a802a20f8f06135cc39dde18497e8", func := "example.com/grantline/grantline/zzlaws_root_b1.FnReachableUnderFreshRoot", spec := "fnReachableUnderFreshRoot", apart := false }
def FnReachableUnderFreshRootSaid : Prop := fnReachableUnderFreshRootRow.holds Try.pinned (OpenSpec.ofChange fnReachableUnderFreshRootSpec)

/-- ITS FALSE NEIGHBOUR: 'it returns false'. Refute it at one input. -/
def fnReachableUnderFreshRootWrong : ChangeSpec := { name := "fnReachableUnderFreshRoot", fn := fun _ => fun
  | [d1, d2, d3] => { results := [.lit (.bool false)], args := [d1, d2, d3] }
  | _ => none }
def FnReachableUnderFreshRootWrongFalsely : Prop := fnReachableUnderFreshRootRow.holds Try.pinned (OpenSpec.ofChange fnReachableUnderFreshRootWrong)

end Rows
end Go.Proofs.Qxb6609015a
