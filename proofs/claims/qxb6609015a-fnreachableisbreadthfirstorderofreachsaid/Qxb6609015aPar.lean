import Derived.Test.Qxb6609015aPos
import Derived.Test.Qxb6609015aFound
namespace Go.Proofs.Qxb6609015a
open Go.RowKit Go.Maps

/-- The two int rows of the call's own. -/
def RowsAt (Wp wr : World) (gp gf n : Nat) (xs ys : List Value) : Prop :=
  wr.ownsRow Wp.heap.size 3 1 (.slice (some ⟨gp, 0, none⟩) n n) n xs ∧ wr.ownsRow Wp.heap.size 3 1 (.slice (some ⟨gf, 0, none⟩) n n) n ys ∧ Below Wp.heap.size Wp wr

theorem RowsAt.setP {Wp wr : World} {gp gf n : Nat} {xs ys : List Value} (h : RowsAt Wp wr gp gf n xs ys) (hne : gp ≠ gf) (k : Nat) (u : Value) : RowsAt Wp (wr.setCell ⟨gp, k, none⟩ u) gp gf n (xs.set k u) ys := by
  have hs := h.1.stored k u
  exact ⟨hs.1, h.2.1.kept hs.2 (.inr (by simp [Value.ownBlock]; omega)), h.2.2.setCell (h.1.lt gp rfl).1 u⟩

theorem RowsAt.setF {Wp wr : World} {gp gf n : Nat} {xs ys : List Value} (h : RowsAt Wp wr gp gf n xs ys) (hne : gp ≠ gf) (k : Nat) (u : Value) : RowsAt Wp (wr.setCell ⟨gf, k, none⟩ u) gp gf n xs (ys.set k u) := by
  have hs := h.2.1.stored k u
  exact ⟨h.1.kept hs.2 (.inr (by simp [Value.ownBlock]; omega)), hs.1, h.2.2.setCell (h.2.1.lt gf rfl).1 u⟩

theorem RowsAt.drewN {Wp wr : World} {gp gf n : Nat} {xs ys : List Value} (h : RowsAt Wp wr gp gf n xs ys) (q : Nat) : RowsAt Wp (wr.drewN q) gp gf n xs ys := ⟨h.1, h.2.1, below_drewN h.2.2 q⟩

/-- What the rows say: parent[k] is where k was found, −1 where it was not; firstAt[k] the place. -/
def Rows2 (pf : List (Nat × Nat)) (n : Nat) (xs ys : List Value) : Prop :=
  xs.length = n ∧ ys.length = n ∧ (∀ k, k < n → xs[k]? = some (.int .i64 (par pf k))) ∧ ∀ (k : Nat) (q : Nat × Nat), pf[k]? = some q → k + 1 < n → ys[k + 1]? = some (.int .i64 (q.2 : Int))

theorem Rows2_push {pf : List (Nat × Nat)} {n : Nat} {xs ys : List Value} (h : Rows2 pf n xs ys) (hn : pf.length + 1 < n) (j i : Nat) : Rows2 (pf ++ [(j, i)]) n (xs.set (pf.length + 1) (.int .i64 (j : Int))) (ys.set (pf.length + 1) (.int .i64 (i : Int))) := by
  obtain ⟨hx, hy, hp, hq⟩ := h
  refine ⟨by simpa using hx, by simpa using hy, fun k hk => ?_, fun k q hkq hk => ?_⟩
  · rw [List.getElem?_set, par_push]
    by_cases e : k = pf.length + 1
    · subst e
      simp [hx, hn]
    · rw [if_neg (fun h => e h.symm), if_neg e]
      exact hp k hk
  · rw [List.getElem?_set]
    by_cases e : k = pf.length
    · subst e
      simp at hkq
      subst hkq
      simp [hy, hn]
    · rw [if_neg (by omega)]
      have hl := (List.getElem?_eq_some_iff.1 hkq).1
      simp at hl
      rw [List.getElem?_append_left (by omega)] at hkq
      exact hq k q hkq hk

theorem Rows2_nil {n : Nat} {xs ys : List Value} (hx : xs.length = n) (hy : ys.length = n) (h : ∀ k, k < n → xs[k]? = some (.int .i64 (-1))) : Rows2 [] n xs ys :=
  ⟨hx, hy, fun k hk => by rw [h k hk]; unfold par; split <;> simp, fun k q hq => by simp at hq⟩

theorem scan_app {α : Type} [DecidableEq α] (nm : α) (f a b : List α) : scan nm f (a ++ b) = scan nm (scan nm f a) b := by simp [scan]
theorem scan_take_prefix {α : Type} [DecidableEq α] (nm : α) (f ss : List α) (i : Nat) : scan nm f (ss.take i) <+: scan nm f ss := by
  have e : scan nm f ss = scan nm (scan nm f (ss.take i)) (ss.drop i) := by rw [← scan_app, List.take_append_drop]
  rw [e]
  exact scan_prefix nm _ _

theorem pos_in {nm : ByteArray} {f2 f : List ByteArray} (hp : f2 <+: f) {e : ByteArray} (he : e ∈ nm :: f2) : ∃ t, t ≤ f2.length ∧ (nm :: f).getD t ByteArray.empty = e := by
  obtain ⟨r, rfl⟩ := hp
  obtain ⟨t, ht, hte⟩ := List.mem_iff_getElem.1 he
  refine ⟨t, by simp at ht; omega, ?_⟩
  rw [← List.cons_append, List.getD_eq_getElem?_getD, List.getElem?_append_left ht, List.getElem?_eq_getElem ht, hte]
  rfl

theorem pos_out {nm : ByteArray} {f2 f : List ByteArray} {e : ByteArray} (hp : f2 ++ [e] <+: f) : f2.length + 1 ≤ f.length ∧ (nm :: f).getD (f2.length + 1) ByteArray.empty = e := by
  obtain ⟨r, rfl⟩ := hp
  refine ⟨by simp, ?_⟩
  simp

/-! ### what the loops know -/
def Lp2 (Wp : World) (gf n : Nat) (v : Value) (wr : World) : Prop := ∃ (k : Nat) (xs ys : List Value), k ≤ n ∧ v = .int .i64 k ∧ RowsAt Wp wr Wp.heap.size gf n xs ys ∧ ∀ j, j < k → xs[j]? = some (.int .i64 (-1))
def Lp3 (Wp : World) (gf n : Nat) (nm : ByteArray) (succ : ByteArray → List ByteArray) (v : Value) (wr : World) : Prop :=
  ∃ (j : Nat) (pf : List (Nat × Nat)) (xs ys : List Value), j ≤ n ∧ v = .int .i64 j ∧ RowsAt Wp wr Wp.heap.size gf n xs ys ∧ Rows2 pf n xs ys ∧ Pf pf j 0 ∧ pf.length = (Fs nm succ j).length
def Lp4 (Wp : World) (gf n : Nat) (nm : ByteArray) (succ : ByteArray → List ByteArray) (x : ByteArray) (j : Nat) (v : Value) (wr : World) : Prop :=
  ∃ (i : Nat) (pf : List (Nat × Nat)) (xs ys : List Value), i ≤ (succ x).length ∧ v = .int .i64 i ∧ RowsAt Wp wr Wp.heap.size gf n xs ys ∧ Rows2 pf n xs ys ∧ Pf pf j i ∧ pf.length = (scan nm (Fs nm succ j) ((succ x).take i)).length
def Lp5 (Wp : World) (gf m : Nat) (xs ys : List Value) (v : Value) (wr : World) : Prop := ∃ t : Nat, t ≤ m ∧ v = .int .i64 ((t : Int) + 1) ∧ RowsAt Wp wr Wp.heap.size gf (m + 1) xs ys

theorem lp2_mk {Wp wr : World} {gf n : Nat} {v : Value} (k : Nat) (xs ys : List Value) (h1 : k ≤ n) (h2 : v = .int .i64 k) (h3 : RowsAt Wp wr Wp.heap.size gf n xs ys) (h4 : ∀ j, j < k → xs[j]? = some (.int .i64 (-1))) : Lp2 Wp gf n v wr := ⟨k, xs, ys, h1, h2, h3, h4⟩
theorem lp3_mk {Wp wr : World} {gf n : Nat} {nm : ByteArray} {succ : ByteArray → List ByteArray} {v : Value} (j : Nat) (pf : List (Nat × Nat)) (xs ys : List Value) (h1 : j ≤ n) (h2 : v = .int .i64 j) (h3 : RowsAt Wp wr Wp.heap.size gf n xs ys) (h4 : Rows2 pf n xs ys) (h5 : Pf pf j 0) (h6 : pf.length = (Fs nm succ j).length) : Lp3 Wp gf n nm succ v wr := ⟨j, pf, xs, ys, h1, h2, h3, h4, h5, h6⟩
theorem lp4_mk {Wp wr : World} {gf n : Nat} {nm : ByteArray} {succ : ByteArray → List ByteArray} {x : ByteArray} {j : Nat} {v : Value} (i : Nat) (pf : List (Nat × Nat)) (xs ys : List Value) (h1 : i ≤ (succ x).length) (h2 : v = .int .i64 i) (h3 : RowsAt Wp wr Wp.heap.size gf n xs ys) (h4 : Rows2 pf n xs ys) (h5 : Pf pf j i) (h6 : pf.length = (scan nm (Fs nm succ j) ((succ x).take i)).length) : Lp4 Wp gf n nm succ x j v wr := ⟨i, pf, xs, ys, h1, h2, h3, h4, h5, h6⟩
theorem lp5_mk {Wp wr : World} {gf m : Nat} {xs ys : List Value} {v : Value} (t : Nat) (h1 : t ≤ m) (h2 : v = .int .i64 ((t : Int) + 1)) (h3 : RowsAt Wp wr Wp.heap.size gf (m + 1) xs ys) : Lp5 Wp gf m xs ys v wr := ⟨t, h1, h2, h3⟩

end Go.Proofs.Qxb6609015a
