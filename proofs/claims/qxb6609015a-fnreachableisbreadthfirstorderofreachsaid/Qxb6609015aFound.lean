import Derived.Test.Qxb6609015aFresh
namespace Go.Proofs.Qxb6609015a

/-! ### PLAIN: where each name is first found -/
section
variable {α : Type} [DecidableEq α]

theorem Fs_stay (nm : α) (succ : α → List α) {p : Nat} (h : (Fs nm succ p).length + 1 ≤ p) : ∀ {q : Nat}, p ≤ q → Fs nm succ q = Fs nm succ p := by
  intro q hq
  induction hq with
  | refl => rfl
  | step hle ih =>
    rename_i m
    have hm : p ≤ m := hle
    rw [Fs_none nm succ m, ih]
    rw [ih]
    exact List.getElem?_eq_none (by simp only [List.length_cons]; omega)

theorem Fs_ahead (nm : α) (succ : α → List α) {p j : Nat} (hp : p = (Fs nm succ p).length + 1) (hj : j < p) : j ≤ (Fs nm succ j).length := by
  by_cases h : j ≤ (Fs nm succ j).length
  · exact h
  · have := Fs_stay nm succ (p := j) (by omega) (Nat.le_of_lt hj)
    rw [this] at hp
    omega

theorem Fs_at (nm : α) (succ : α → List α) {p j : Nat} (hp : p = (Fs nm succ p).length + 1) (hj : j < p) (x : α) (hx : (nm :: Fs nm succ p)[j]? = some x) : (nm :: Fs nm succ j)[j]? = some x := by
  obtain ⟨t, ht⟩ := Fs_mono nm succ (Nat.le_of_lt hj)
  have ha := Fs_ahead nm succ hp hj
  rw [← ht, ← List.cons_append, List.getElem?_append_left (by simp only [List.length_cons]; omega)] at hx
  exact hx

/-- Each found name k (from 1 on) was first said at (j, i): by the j-th name, at place i of its list; those places rise. -/
def Pf (pf : List (Nat × Nat)) (j i : Nat) : Prop :=
  (∀ (t : Nat) (q : Nat × Nat), pf[t]? = some q → q.1 ≤ t ∧ (q.1 < j ∨ q.1 = j ∧ q.2 < i)) ∧ ∀ (t : Nat) (q q' : Nat × Nat), pf[t]? = some q → pf[t + 1]? = some q' → q.1 < q'.1 ∨ q.1 = q'.1 ∧ q.2 < q'.2

theorem Pf_nil : Pf [] 0 0 := ⟨fun t q h => by simp at h, fun t q q' h => by simp at h⟩
theorem Pf_more {pf : List (Nat × Nat)} {j i : Nat} (h : Pf pf j i) : Pf pf j (i + 1) := ⟨fun t q hq => ⟨(h.1 t q hq).1, by have := (h.1 t q hq).2; omega⟩, h.2⟩
theorem Pf_next {pf : List (Nat × Nat)} {j i : Nat} (h : Pf pf j i) : Pf pf (j + 1) 0 := ⟨fun t q hq => ⟨(h.1 t q hq).1, by have := (h.1 t q hq).2; omega⟩, h.2⟩
theorem Pf_push {pf : List (Nat × Nat)} {j i : Nat} (h : Pf pf j i) (hj : j ≤ pf.length) : Pf (pf ++ [(j, i)]) j (i + 1) := by
  refine ⟨fun t q hq => ?_, fun t q q' hq hq' => ?_⟩
  · by_cases ht : t < pf.length
    · rw [List.getElem?_append_left ht] at hq
      exact (Pf_more h).1 t q hq
    · have hl := (List.getElem?_eq_some_iff.1 hq).1
      simp at hl
      obtain rfl : t = pf.length := by omega
      simp at hq
      subst hq
      exact ⟨hj, .inr ⟨rfl, Nat.lt_succ_self i⟩⟩
  · have hl := (List.getElem?_eq_some_iff.1 hq').1
    simp at hl
    rw [List.getElem?_append_left (by omega)] at hq
    by_cases ht : t + 1 < pf.length
    · rw [List.getElem?_append_left ht] at hq'
      exact h.2 t q q' hq hq'
    · have e : t + 1 = pf.length := by omega
      rw [e] at hq'
      simp at hq'
      subst hq'
      exact (h.1 t q hq).2

def par (pf : List (Nat × Nat)) (k : Nat) : Int := if k = 0 then -1 else match pf[k - 1]? with | some q => (q.1 : Int) | none => -1
theorem par_zero (pf : List (Nat × Nat)) : par pf 0 = -1 := rfl
theorem par_succ (pf : List (Nat × Nat)) (k : Nat) (q : Nat × Nat) (h : pf[k]? = some q) : par pf (k + 1) = (q.1 : Int) := by simp [par, h]
theorem par_out (pf : List (Nat × Nat)) (k : Nat) (h : pf.length < k) : par pf k = -1 := by
  unfold par
  split
  · rfl
  · rw [List.getElem?_eq_none (by omega)]
theorem par_push (pf : List (Nat × Nat)) (q : Nat × Nat) (k : Nat) : par (pf ++ [q]) k = if k = pf.length + 1 then (q.1 : Int) else par pf k := by
  by_cases h : k = pf.length + 1
  · subst h
    rw [if_pos rfl]
    simp [par]
  · rw [if_neg h]
    unfold par
    by_cases h0 : k = 0
    · simp [h0]
    · rw [if_neg h0, if_neg h0]
      by_cases hl : k - 1 < pf.length
      · rw [List.getElem?_append_left hl]
      · rw [List.getElem?_eq_none (by simp; omega), List.getElem?_eq_none (by omega)]

end

end Go.Proofs.Qxb6609015a
