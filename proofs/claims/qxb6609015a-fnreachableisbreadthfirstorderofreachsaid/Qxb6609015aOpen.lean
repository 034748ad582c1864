import Derived.Test.Qxb6609015aIn
import Derived.ProofKit
import Derived.OpenShut
import Derived.ChangeOld
import Derived.Below
import Derived.Deep.Slices
namespace Go.Proofs.Qxb6609015a
open Go.ChangeShapes Go.WideShapes Go.ChangeAt Go.RowKit Go.Deep

theorem laidOut : laidOutB Try.prog = true := by kernel_rfl
theorem cells9 : Try.prog.cellsOf 9 = 1 := by kernel_rfl
theorem cells22 : Try.prog.cellsOf 22 = 1 := by kernel_rfl

theorem strs_of_trod {H : Type} {enc : TypeId × Value → H} {W : World} {base : Nat} {sp : Nat → Bool} {held : Bool} {v : Value} {n : Nat} {x : DataW H × List MemPlace}
    (h : DataW.trod enc Try.prog W base sp held n 22 [v] = some x) : ∃ a len cap B O s, v = .slice a len cap ∧ Strs W a len cap B O s := by
  rcases open_slice1 Try.underlying22 cells9 h with ⟨hcs, _⟩ | ⟨a', len', cap', m, n, V, D, Pl, hcs, _, hl, hm, hmm, _, hx⟩
  · simp at hcs
    subst hcs
    exact ⟨none, 0, 0, 0, 0, fun _ => ByteArray.empty, rfl, Nat.zero_le _, fun h => by omega, fun j hj => by omega⟩
  · simp at hcs
    subst hcs
    have hlm : len' ≤ m := by rw [hmm]; split <;> omega
    have each : ∀ i, i < len' → ∃ t : ByteArray, W.cell? (a'.add i) = some (.string t) ∧ t.size ≤ maxLen := by
      intro i hi
      obtain ⟨h1, h2⟩ := hx i (by omega)
      obtain ⟨t, ht, _, hs⟩ := DataW.trod_string Try.underlying9 h2
      simp at ht
      exact ⟨t, by rw [h1, ht], hs⟩
    obtain ⟨q, hq⟩ := choose_lt each
    obtain ⟨b, off, spot⟩ := a'
    rcases Nat.eq_zero_or_pos len' with h0 | h0
    · subst h0
      exact ⟨_, 0, cap', 0, 0, fun _ => ByteArray.empty, rfl, Nat.zero_le _, fun h => by omega, fun j hj => by omega⟩
    have hspot : spot = none := by simpa [Addr.add] using World.cell?_spot (hq 0 h0).1
    subst hspot
    refine ⟨_, len', cap', b, off, q, rfl, by omega, fun _ => ⟨rfl, block_lt_of_cell (hq 0 h0).1⟩, fun j hj => ⟨?_, (hq j hj).2⟩⟩
    rw [← add_plain]
    exact (hq j hj).1

theorem lsts_of_trod {H : Type} {enc : TypeId × Value → H} {W : World} {base : Nat} {sp : Nat → Bool} {held : Bool} {v : Value} {n : Nat} {x : DataW H × List MemPlace}
    (h : DataW.trod enc Try.prog W base sp held n 23 [v] = some x) : ∃ a len cap B O A N C Bi Oi S, v = .slice a len cap ∧ Lsts W a len cap B O A N C Bi Oi S := by
  rcases open_slice1 Try.underlying23 cells22 h with ⟨hcs, _⟩ | ⟨a', len', cap', m, n, V, D, Pl, hcs, _, hl, hm, hmm, _, hx⟩
  · simp at hcs
    subst hcs
    exact ⟨none, 0, 0, 0, 0, fun _ => none, fun _ => 0, fun _ => 0, fun _ => 0, fun _ => 0, fun _ _ => ByteArray.empty, rfl, Nat.zero_le _, fun h => by omega, fun j hj => by omega⟩
  · simp at hcs
    subst hcs
    have hlm : len' ≤ m := by rw [hmm]; split <;> omega
    have each : ∀ i, i < len' → ∃ t : Option Addr × Nat × Nat × Nat × Nat × (Nat → ByteArray), W.cell? (a'.add i) = some (.slice t.1 t.2.1 t.2.2.1) ∧ Strs W t.1 t.2.1 t.2.2.1 t.2.2.2.1 t.2.2.2.2.1 t.2.2.2.2.2 := by
      intro i hi
      obtain ⟨h1, h2⟩ := hx i (by omega)
      obtain ⟨a, l, c, B, O, s, hv, hs⟩ := strs_of_trod h2
      exact ⟨(a, l, c, B, O, s), by rw [h1, hv], hs⟩
    obtain ⟨q, hq⟩ := choose_lt each
    obtain ⟨b, off, spot⟩ := a'
    rcases Nat.eq_zero_or_pos len' with h0 | h0
    · subst h0
      exact ⟨_, 0, cap', 0, 0, fun _ => none, fun _ => 0, fun _ => 0, fun _ => 0, fun _ => 0, fun _ _ => ByteArray.empty, rfl, Nat.zero_le _, fun h => by omega, fun j hj => by omega⟩
    have hspot : spot = none := by simpa [Addr.add] using World.cell?_spot (hq 0 h0).1
    subst hspot
    refine ⟨_, len', cap', b, off, fun i => (q i).1, fun i => (q i).2.1, fun i => (q i).2.2.1, fun i => (q i).2.2.2.1, fun i => (q i).2.2.2.2.1, fun i => (q i).2.2.2.2.2, rfl, by omega, fun _ => ⟨rfl, block_lt_of_cell (hq 0 h0).1⟩, fun j hj => ⟨?_, (hq j hj).2⟩⟩
    rw [← add_plain]
    exact (hq j hj).1

theorem strs_of {H : Type} {enc : TypeId × Value → H} {W : World} {base : Nat} {sp : Nat → Bool} {held : Bool} {v : Value} {d : DataW H} {ps : List MemPlace}
    (h : DataW.Trod enc Try.prog W base sp held 22 v d ps) (hv : ∃ a len cap, v = .slice a len cap) : ∃ a len cap B O s, v = .slice a len cap ∧ Strs W a len cap B O s := by
  obtain ⟨a, len, cap, rfl⟩ := hv
  obtain ⟨fuel, hf⟩ := h
  exact strs_of_trod hf

theorem lsts_of {H : Type} {enc : TypeId × Value → H} {W : World} {base : Nat} {sp : Nat → Bool} {held : Bool} {v : Value} {d : DataW H} {ps : List MemPlace}
    (h : DataW.Trod enc Try.prog W base sp held 23 v d ps) (hv : ∃ a len cap, v = .slice a len cap) : ∃ a len cap B O A N C Bi Oi S, v = .slice a len cap ∧ Lsts W a len cap B O A N C Bi Oi S := by
  obtain ⟨a, len, cap, rfl⟩ := hv
  obtain ⟨fuel, hf⟩ := h
  exact lsts_of_trod hf

end Go.Proofs.Qxb6609015a
