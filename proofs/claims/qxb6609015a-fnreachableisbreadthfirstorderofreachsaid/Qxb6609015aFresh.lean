import Derived.Test.Qxb6609015aBfs
namespace Go.Proofs.Qxb6609015a

/-! ### PLAIN: a fresh root that steps to nm alone reaches nm, then what nm reaches. -/
section
variable {α : Type} [DecidableEq α]

theorem Fs_stable (nm : α) (succ : α → List α) {p : Nat} (h : p = (Fs nm succ p).length + 1) : ∀ {q : Nat}, p ≤ q → Fs nm succ q = Fs nm succ p := by
  intro q hq
  induction hq with
  | refl => rfl
  | step hle ih =>
    rename_i m
    have hm : p ≤ m := hle
    rw [Fs_none nm succ m, ih]
    rw [ih]
    exact List.getElem?_eq_none (by simp only [List.length_cons]; omega)

theorem add_lift (root nm : α) (f : List α) (e : α) (h : e ≠ root) : add root (nm :: f) e = nm :: add nm f e := by
  unfold add
  by_cases hm : e ∈ nm :: f
  · rw [if_pos (List.mem_cons_of_mem _ hm), if_pos hm]
  · rw [if_neg (fun hc => by rcases List.mem_cons.1 hc with h1 | h1; exact h h1; exact hm h1), if_neg hm]
    rfl

theorem scan_lift (root nm : α) : ∀ (ss f : List α), (∀ e ∈ ss, e ≠ root) → scan root (nm :: f) ss = nm :: scan nm f ss
  | [], _, _ => rfl
  | e :: r, f, h => by
    show scan root (add root (nm :: f) e) r = nm :: scan nm (add nm f e) r
    rw [add_lift root nm f e (h e (by simp))]
    exact scan_lift root nm r _ (fun x hx => h x (by simp [hx]))

theorem Fs_lift (root nm : α) (succ : α → List α) (U : List α) (hU : ∀ x, ∀ e ∈ succ x, e ∈ U) (hr : root ∉ U) (hn : root ≠ nm) : ∀ p, Fs root (fun t => if t = root then [nm] else succ t) (p + 1) = nm :: Fs nm succ p
  | 0 => by
    rw [Fs_some root _ 0 root rfl]
    simp [Fs, scan, add, Ne.symm hn]
  | p + 1 => by
    have ih := Fs_lift root nm succ U hU hr hn p
    cases hx : (nm :: Fs nm succ p)[p]? with
    | none =>
      rw [Fs_none root _ (p + 1) (by rw [ih]; simpa using hx), ih, Fs_none nm succ p hx]
    | some x =>
      have hxr : x ≠ root := by
        rcases List.mem_cons.1 (List.mem_of_getElem? hx) with h | h
        · rw [h]; exact Ne.symm hn
        · exact fun e => hr (e ▸ Fs_sub nm succ U hU p x h)
      rw [Fs_some root _ (p + 1) x (by rw [ih]; simpa using hx), ih, Fs_some nm succ p x hx, if_neg hxr]
      exact scan_lift root nm _ _ (fun e he h => hr (h ▸ hU x e he))

theorem fresh_law (root nm : α) (succ : α → List α) (U : List α) (hU : ∀ x, ∀ e ∈ succ x, e ∈ U) (hr : root ∉ U) (hn : root ≠ nm) {p1 p2 : Nat} (h1 : p1 = (Fs nm succ p1).length + 1)
    (h2 : p2 = (Fs root (fun t => if t = root then [nm] else succ t) p2).length + 1) : Fs root (fun t => if t = root then [nm] else succ t) p2 = nm :: Fs nm succ p1 := by
  have e := Fs_lift root nm succ U hU hr hn (p1 + p2)
  rw [Fs_stable nm succ h1 (show p1 ≤ p1 + p2 by omega), Fs_stable root _ h2 (show p2 ≤ p1 + p2 + 1 by omega)] at e
  exact e

end

end Go.Proofs.Qxb6609015a
