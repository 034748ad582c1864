import Derived.Test.Qxb6615769aRun
import Derived.ProofKit
import Derived.WideKeyArgs
namespace Go.Proofs.Qxb6615769a
open Go.RowKit Go.Maps Go.WideMaps Go.ChangeShapes Go.WideShapes

/-- WHAT THE WALK IS TOLD OF A 'map[[2]int]bool' THAT CAME IN: how many entries it has, and what a look-up at (a, b) gives: in every world in which nothing old has turned. -/
def IsDel (w : World) (m : Option Nat) (dn : Nat) (a b : Int) (x : Bool) : Prop :=
  ∀ W, Below w.heap.size w W → (Builtin.len_ #[27] 3 #[.map m]).run Try.prog W = .ok (.int .i64 dn) W ∧ (Instr.lookup 27 (.map m) (.agg #[.int .i64 a, .int .i64 b]) false).run Try.prog W = .ok (.bool x) W

theorem elemAt_plainElem_bool {H : Type} {enc : TypeId × Value → H} {P : Program} {e : TypeId} (he : P.underlying e = some .bool) {W : World} {base : Nat} {sp : Nat → Bool} {held : Bool} {m : Nat} {v : Value} {z : DataW H × List MemPlace}
    (h : WideElems.elemAt enc P W base sp held m e v = some z) : plainElem P e v = some z := by
  obtain ⟨b, rfl, rfl⟩ := WideElems.elemAt_bool he h
  exact plainElem_bool he b

theorem isDel_of {H : Type} {enc : TypeId × Value → H} {W : World} {base : Nat} {sp : Nat → Bool} {held : Bool} {m : Option Nat} {d : DataW H} {ps : List MemPlace} {a b : Int} (wa : wf64 a) (wb : wf64 b)
    (h : DataW.Trod enc Try.prog W base sp held 27 (.map m) d ps) : ∃ dn x, IsDel W m dn a b x := by
  obtain ⟨fuel, hf⟩ := h
  rcases WideElems.open_map Try.underlying27 hf with ⟨hcs, _⟩ | ⟨bm, es, clock, n, _, hcs, hb, _, F, _⟩
  · simp [Value.cells] at hcs
    subst hcs
    exact ⟨0, false, fun W' _ => ⟨Maps.len_nil Try.underlying27 3, look_none W' wa wb⟩⟩
  · simp [Value.cells] at hcs
    subst hcs
    obtain ⟨D, hown⟩ : ∃ D : DataW H, W.ownsMap Try.prog 22 (plainElem Try.prog 4) bm es.size D := ⟨_, World.ownsMap_of_fit (R := plainElem Try.prog 4) hb F (fun x _ z hz => elemAt_plainElem_bool Try.underlying4 hz)⟩
    have hlt : bm < W.heap.size := hown.lt
    obtain ⟨x, _, hx⟩ := lookup_bool hown keyed Try.underlying27 Try.underlying4 (zero4 _) (keyOf_kk wa wb)
    refine ⟨Maps.size D, x, fun W' hB => ?_⟩
    have hown' : W'.ownsMap Try.prog 22 (plainElem Try.prog 4) bm es.size D := hown.kept (w' := W') (row := some W.heap.size) ⟨hB.os, hB.tape, hB.output, hB.size, fun i hi _ => hB.block i hi⟩ (by simp; omega)
    refine ⟨hown'.len Try.underlying27 3, ?_⟩
    obtain ⟨y, hrun, hy⟩ := lookup_bool hown' keyed Try.underlying27 Try.underlying4 (zero4 _) (keyOf_kk wa wb)
    rw [hx] at hy
    simp only [DataW.lit.injEq, Lit.bool.injEq] at hy
    rw [hy]
    exact hrun

end Go.Proofs.Qxb6615769a
