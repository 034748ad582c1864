import Derived.Test.Qxb6615769aPlain
import Derived.ProofKit
import Derived.OpenShut
import Derived.ChangeOld
import Derived.Below
import Derived.Deep.Slices
namespace Go.Proofs.Qxb6615769a
open Go.ChangeShapes Go.WideShapes Go.ChangeAt Go.RowKit Go.Deep

/-- WHAT THE WALK IS TOLD OF A '[][2]int' THAT CAME IN: it holds nothing; or it leads to a row of pairs (X i, Y i). -/
def IsPairs (w : World) (a : Option Addr) (len _cap : Nat) (X Y : Nat → Int) : Prop :=
  len ≤ maxLen ∧ (len = 0 ∨ ∃ b off, a = some ⟨b, off, none⟩ ∧ b < w.heap.size ∧ (∀ i, i < len → w.cell? ⟨b, off + i * 2, none⟩ = some (.int .i64 (X i))) ∧ (∀ i, i < len → w.cell? ⟨b, off + i * 2 + 1, none⟩ = some (.int .i64 (Y i))) ∧ ∀ i, i < len → wf64 (X i) ∧ wf64 (Y i))

theorem pair_of_trod {H : Type} {enc : TypeId × Value → H} {w : World} {base : Nat} {sp : Nat → Bool} {held : Bool} {n : Nat} {cs : List Value} {x : DataW H × List MemPlace}
    (h : DataW.trod enc Try.prog w base sp held n 22 cs = some x) : ∃ a b : Int, cs = [.int .i64 a, .int .i64 b] ∧ wf64 a ∧ wf64 b := by
  obtain ⟨xs, m, _, _, hl, hxl, hx⟩ := DataW.trod_array Try.underlying22 h
  rw [cells22] at hl
  have g0 := hx 0 (by omega)
  have g1 := hx 1 (by omega)
  rw [cells3] at g0 g1
  match cs, hl with
  | [c0, c1], _ =>
    match xs, hxl with
    | [y0, y1], _ =>
      simp at g0 g1
      obtain ⟨a, ea, _, wa⟩ := DataW.trod_int Try.underlying3 g0
      obtain ⟨b, eb, _, wb⟩ := DataW.trod_int Try.underlying3 g1
      simp at ea eb
      exact ⟨a, b, by rw [ea, eb], wa, wb⟩

theorem isPairs_of {H : Type} {enc : TypeId × Value → H} {W : World} {base : Nat} {sp : Nat → Bool} {held : Bool} {a : Option Addr} {len cap : Nat} {d : DataW H} {ps : List MemPlace}
    (h : DataW.Trod enc Try.prog W base sp held 26 (.slice a len cap) d ps) : ∃ X Y, IsPairs W a len cap X Y := by
  obtain ⟨fuel, hf⟩ := h
  rcases open_slice Try.underlying26 hf with ⟨hcs, _⟩ | ⟨a', len', cap', m, n, D, Pl, hcs, _, hl, hm, hmm, _, hx⟩
  · simp [Value.cells] at hcs
    obtain ⟨rfl, rfl, rfl⟩ := hcs
    exact ⟨fun _ => 0, fun _ => 0, Nat.zero_le _, .inl rfl⟩
  · simp [Value.cells] at hcs
    obtain ⟨rfl, rfl, rfl⟩ := hcs
    rw [cells22] at hx
    have hlm : len ≤ m := by rw [hmm]; split <;> omega
    have each : ∀ i, i < len → ∃ q : Int × Int, W.cell? (a'.add (i * 2)) = some (.int .i64 q.1) ∧ W.cell? (a'.add (i * 2 + 1)) = some (.int .i64 q.2) ∧ wf64 q.1 ∧ wf64 q.2 := by
      intro i hi
      obtain ⟨cs', h1, h2⟩ := hx i (by omega)
      obtain ⟨x, y, rfl, wx, wy⟩ := pair_of_trod h2
      obtain ⟨_, _, hcell⟩ := World.cells?_some h1
      have e0 := hcell 0 (by omega)
      have e1 := hcell 1 (by omega)
      rw [add_add] at e0 e1
      exact ⟨(x, y), by simpa using e0, by simpa using e1, wx, wy⟩
    obtain ⟨q, hq⟩ := choose_lt each
    refine ⟨fun i => (q i).1, fun i => (q i).2, by omega, ?_⟩
    rcases Nat.eq_zero_or_pos len with h0 | h0
    · exact .inl h0
    right
    obtain ⟨b, off, spot⟩ := a'
    have hspot : spot = none := by simpa [Addr.add] using World.cell?_spot (hq 0 h0).1
    subst hspot
    refine ⟨b, off, rfl, block_lt_of_cell (hq 0 h0).1, fun i hi => ?_, fun i hi => ?_, fun i hi => ⟨(hq i hi).2.2.1, (hq i hi).2.2.2⟩⟩
    · rw [← add_plain]; exact (hq i hi).1
    · rw [Nat.add_assoc, ← add_plain]; exact (hq i hi).2.1

end Go.Proofs.Qxb6615769a
