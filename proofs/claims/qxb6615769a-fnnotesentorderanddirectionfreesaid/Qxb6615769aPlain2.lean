import Derived.Test.Qxb6615769aRun
import Derived.Maps.Ext
import Derived.Deep.Slices
import Derived.OpenShut
namespace Go.Proofs.Qxb6615769a
open Go.RowKit Go.Maps Go.WideMaps

theorem atz_setK (X Y : Nat → Int) (l : Lit) (z : DataW Unit) : ∀ k, (setK X Y k).atKey l z = if has (setK X Y k) l then .lit (.bool true) else z
  | 0 => rfl
  | k + 1 => by
    have ih := atz_setK X Y l z k
    rw [setK_succ]
    by_cases e : l = uk (X k) (Y k)
    · rw [e, has_put_same (tidy_setK X Y k).isMap (uk_key _ _), atKey_put_same (tidy_setK X Y k).isMap (uk_key _ _)]
      rfl
    · rw [has_put_other e, atKey_put_other e, ih]

theorem hasl_setK (X Y : Nat → Int) (l : Lit) (n : Nat) : has (setK X Y n) l = (List.range n).any fun i => (uk (X i) (Y i)).sameKey l := by
  unfold setK
  rw [has_setOf _ _ _ (keys_setK X Y n), List.any_map]
  rfl

/-- THE SAME SENDS IN REVERSE ORDER LEAVE THE SAME SET. -/
theorem setK_rev (X Y : Nat → Int) (n : Nat) (c1 : Canon (setK X Y n)) (c2 : Canon (setK (fun j => X (n - 1 - j)) (fun j => Y (n - 1 - j)) n)) :
    setK (fun j => X (n - 1 - j)) (fun j => Y (n - 1 - j)) n = setK X Y n := by
  have hh : ∀ l, has (setK (fun j => X (n - 1 - j)) (fun j => Y (n - 1 - j)) n) l = has (setK X Y n) l := by
    intro l
    rw [hasl_setK, hasl_setK, Bool.eq_iff_iff, List.any_eq_true, List.any_eq_true]
    constructor
    · rintro ⟨i, hi, h⟩
      exact ⟨n - 1 - i, List.mem_range.2 (by have := List.mem_range.1 hi; omega), h⟩
    · rintro ⟨i, hi, h⟩
      have hi' := List.mem_range.1 hi
      refine ⟨n - 1 - i, List.mem_range.2 (by omega), ?_⟩
      show (uk (X (n - 1 - (n - 1 - i))) (Y (n - 1 - (n - 1 - i)))).sameKey l = true
      rw [show n - 1 - (n - 1 - i) = i by omega]
      exact h
  refine Maps.ext c2 c1 hh (fun l z h => ?_)
  rw [atz_setK, atz_setK, hh l]

theorem Run.noteAt {W : World} {rb B n k : Nat} {m : Option Nat} {X Y : Nat → Int} (h : Run W rb B k m (setK X Y k)) (hne : rb ≠ B) {a c : Int} (wa : wf64 a) (wc : wf64 c) (hu : uk a c = uk (X k) (Y k)) (hk : k < n) (hn : n ≤ 1048576) :
    Calls Try.prog 12 #[.pointer (some ⟨rb, 0, none⟩), .int .i64 a, .int .i64 c] W fun e w' => e = .returned (.tuple #[]) ∧ Run w' rb B (k + 1) m (setK X Y (k + 1)) ∧ W.grownBy w' (some B) := by
  refine (note_any rb B k (setK X Y k) a c W h.2.1 h.1 (by unfold maxLen; omega) (wf_min wa wc) (wf_max wa wc)).mono ?_
  rintro e w' ⟨rfl, h1, h2⟩
  refine ⟨rfl, ⟨?_, h2.cell h.2.1 (fun e => hne (Option.some.inj e)), h2.cell h.2.2 (fun e => hne (Option.some.inj e))⟩, h2⟩
  rw [setK_succ, ← hu]
  exact h1

/-- WHAT THE WALK IS TOLD OF A '[]bool' THAT CAME IN. -/
def IsBools (w : World) (a : Option Addr) (len _cap : Nat) (F : Nat → Bool) : Prop :=
  len ≤ maxLen ∧ (len = 0 ∨ ∃ b off, a = some ⟨b, off, none⟩ ∧ b < w.heap.size ∧ ∀ i, i < len → w.cell? ⟨b, off + i, none⟩ = some (.bool (F i)))

open Go.ChangeShapes Go.WideShapes Go.Deep in
theorem isBools_of {H : Type} {enc : TypeId × Value → H} {W : World} {base : Nat} {sp : Nat → Bool} {held : Bool} {a : Option Addr} {len cap : Nat} {d : DataW H} {ps : List MemPlace}
    (h : DataW.Trod enc Try.prog W base sp held 35 (.slice a len cap) d ps) : ∃ F, IsBools W a len cap F := by
  obtain ⟨fuel, hf⟩ := h
  rcases open_slice1 Try.underlying35 (by kernel_rfl) hf with ⟨hcs, _⟩ | ⟨a', len', cap', m, n, V, D, Pl, hcs, _, hl, hm, hmm, _, hx⟩
  · simp [Value.cells] at hcs
    obtain ⟨rfl, rfl, rfl⟩ := hcs
    exact ⟨fun _ => false, Nat.zero_le _, .inl rfl⟩
  · simp [Value.cells] at hcs
    obtain ⟨rfl, rfl, rfl⟩ := hcs
    have hlm : len ≤ m := by rw [hmm]; split <;> omega
    have each : ∀ i, i < len → ∃ q : Bool, W.cell? (a'.add i) = some (.bool q) := by
      intro i hi
      obtain ⟨h1, h2⟩ := hx i (by omega)
      obtain ⟨x, hx, _⟩ := DataW.trod_bool Try.underlying4 h2
      simp at hx
      exact ⟨x, by rw [h1, hx]⟩
    obtain ⟨q, hq⟩ := choose_lt each
    refine ⟨q, by omega, ?_⟩
    rcases Nat.eq_zero_or_pos len with h0 | h0
    · exact .inl h0
    right
    obtain ⟨b, off, spot⟩ := a'
    have hspot : spot = none := by simpa [Addr.add] using World.cell?_spot (hq 0 h0)
    subst hspot
    refine ⟨b, off, rfl, block_lt_of_cell (hq 0 h0), fun i hi => ?_⟩
    rw [← add_plain]; exact hq i hi

end Go.Proofs.Qxb6615769a
