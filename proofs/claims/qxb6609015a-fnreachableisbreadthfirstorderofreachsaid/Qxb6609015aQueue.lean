import Derived.Test.Qxb6609015aBuild
import Derived.Maps.AppendAt
import Derived.ArgAppend
import Derived.Laws.IdiomCopy
namespace Go.Proofs.Qxb6609015a
open Go.RowKit Go.Maps

/-- A QUEUE OF THE CALL's OWN: a slice from whatever place of a block on; its spare cells can be written. -/
def Queue (w : World) (base : Nat) (v : Value) (xs : List Value) : Prop :=
  ∃ g off cap, v = .slice (some ⟨g, off, none⟩) xs.length cap ∧ base ≤ g ∧ g < w.heap.size ∧ xs.length ≤ cap ∧ cap ≤ maxLen ∧
    (∀ j u, xs[j]? = some u → w.cell? ⟨g, off + j, none⟩ = some u) ∧ ∀ j, j < cap → (w.cell? ⟨g, off + j, none⟩).isSome = true ∧ w.frozen? ⟨g, off + j, none⟩ = false

theorem Queue.block {w : World} {base : Nat} {v : Value} {xs : List Value} (h : Queue w base v xs) : ∃ g, v.ownBlock = some g ∧ base ≤ g ∧ g < w.heap.size := by
  obtain ⟨g, off, cap, rfl, h1, h2, _⟩ := h
  exact ⟨g, rfl, h1, h2⟩

theorem Queue.kept {w w' : World} {base : Nat} {v : Value} {xs : List Value} {row : Option Nat} (h : Queue w base v xs) (hg : w.grownBy w' row) (hne : v.ownBlock ≠ row) : Queue w' base v xs := by
  obtain ⟨g, off, cap, rfl, h1, h2, h3, h4, h5, h6⟩ := h
  have e : w'.heap[g]? = w.heap[g]? := hg.block g h2 hne
  exact ⟨g, off, cap, rfl, h1, Nat.lt_of_lt_of_le h2 hg.size, h3, h4, fun j u hu => (World.cell?_of_block (w := w) e).trans (h5 j u hu), fun j hj => ⟨by rw [World.cell?_of_block (w := w) e]; exact (h6 j hj).1, (World.frozen?_of_block (w := w) e).trans (h6 j hj).2⟩⟩

theorem info9 : (Try.prog.info? 9).map (fun i => (i.zero, i.size, i.bytes)) = some (some (.string ⟨#[]⟩), 1, 16) := by kernel_rfl

theorem append_queue (w : World) (base : Nat) (v : Value) (xs : List Value) (hq : Queue w base v xs) (ad : Addr) (c : Nat) (x : Value) (hx : w.cell? ad = some x) (h1 : x.oneCell' = true) (hn : xs.length + 1 ≤ 1073741824) (hbase : base ≤ w.heap.size) (ty : TypeId) :
    ∃ v' w', (Builtin.append_ #[22, 22] ty #[v, .slice (some ad) 1 c]).run Try.prog w = .ok v' w' ∧ Queue w' base v' (xs ++ [x]) ∧ w.grownBy w' v.ownBlock ∧ (v'.ownBlock = v.ownBlock ∨ v'.ownBlock = some w.heap.size) := by
  obtain ⟨i, hi, hz, hsz, hby⟩ : ∃ i, Try.prog.info? 9 = some i ∧ i.zero = some (.string ⟨#[]⟩) ∧ i.size = 1 ∧ i.bytes = 16 := by
    obtain ⟨i, hi, hzz⟩ := Option.map_eq_some_iff.1 info9
    simp only [Prod.mk.injEq] at hzz
    exact ⟨i, hi, hzz.1, hzz.2.1, hzz.2.2⟩
  obtain ⟨g, off, cap, rfl, hg1, hg2, hle, hm, hcell, hspare⟩ := hq
  have hnews : ∀ j u, [x][j]? = some u → w.cell? (ad.add j) = some u := by
    intro j u hu
    match j, hu with
    | 0, hu => simp at hu; subst hu; simpa [Addr.add] using hx
  by_cases hroom : xs.length + 1 ≤ cap
  · have hr := run_append_room_cells (P := Try.prog) w 22 ty 9 i Try.underlying22 hi g off xs.length cap ad 1 c [x] (by rw [hsz]; rfl) hnews (by simpa using h1) hroom
      (fun j hj => by simp at hj; subst hj; rw [hsz, Nat.mul_one]; exact (hspare xs.length (by omega)).1) (fun j hj => by simp at hj; subst hj; rw [hsz, Nat.mul_one]; exact (hspare xs.length (by omega)).2)
    rw [hsz, Nat.mul_one] at hr
    have hin := World.cell?_setCells_in g [x] (off + xs.length) w (fun j hj => by simp at hj; subst hj; exact (hspare xs.length (by omega)).1)
    have hout : ∀ j, j ≠ xs.length → (w.setCells g (off + xs.length) [x]).cell? ⟨g, off + j, none⟩ = w.cell? ⟨g, off + j, none⟩ := fun j hj => World.cell?_setCells_out g [x] (off + xs.length) w ⟨g, off + j, none⟩ (fun _ _ => by simp; omega)
    have hgr : w.grownBy (w.setCells g (off + xs.length) [x]) (some g) := ⟨rfl, rfl, rfl, by simp [World.setCells, World.setCell], fun k hk hne => by
      show (w.setCell _ _).heap[k]? = _
      exact Below.heap_setCell w _ _ k (fun e => hne (by rw [e]))⟩
    refine ⟨_, _, hr, ⟨g, off, cap, by simp, hg1, Nat.lt_of_lt_of_le hg2 hgr.size, by simpa using hroom, hm, fun j u hu => ?_, fun j hj => ?_⟩, hgr, .inl rfl⟩
    · by_cases hj : j = xs.length
      · subst hj
        have h0 := hin 0 (by simp)
        simp at hu h0
        rw [h0, hu]
      · rw [hout j hj]
        have hlt : j < xs.length := by
          have := (List.getElem?_eq_some_iff.1 hu).1
          simp at this
          omega
        rw [List.getElem?_append_left hlt] at hu
        exact hcell j u hu
    · refine ⟨?_, by rw [World.frozen?_setCells]; exact (hspare j hj).2⟩
      by_cases hj' : j = xs.length
      · subst hj'
        have h0 := hin 0 (by simp)
        simp at h0
        rw [h0]
        rfl
      · rw [hout j hj']
        exact (hspare j hj).1
  · have hr := run_append_grow (P := Try.prog) w 22 ty 9 i (.string ⟨#[]⟩) Try.underlying22 hi hz ⟨g, off, none⟩ xs.length cap xs (by rw [hsz]; omega)
      (fun j u hu => by rw [Go.WideShapes.add_plain]; exact hcell j u hu) ad 1 c [x] (by rw [hsz]; rfl) hnews (by omega) (by omega) (growslice_fits (by omega) (by rw [hby]; omega))
    have hge := grownCap_ge w (xs.length + 1) cap 9
    have hcm := grownCap_le_maxLen w (xs.length + 1) cap 9 (by unfold maxLen; omega)
    refine ⟨_, _, hr, ?_, ⟨rfl, rfl, rfl, by simp, fun k hk _ => Below.heap_alloc w.drew _ k hk⟩, .inr rfl⟩
    have harr : (xs.toArray ++ [x].toArray ++ Builtin.zeroCells (Value.string ⟨#[]⟩).cells (grownCap w (xs.length + 1) cap 9 - (xs.length + 1))).size = grownCap w (xs.length + 1) cap 9 := by
      simp only [Array.size_append, List.size_toArray, size_zeroCells, List.length_cons, List.length_nil]
      show xs.length + (0 + 1) + (grownCap w (xs.length + 1) cap 9 - (xs.length + 1)) * 1 = _
      omega
    have hcl : ∀ j, (w.drew.alloc (.cells (xs.toArray ++ [x].toArray ++ Builtin.zeroCells (Value.string ⟨#[]⟩).cells (grownCap w (xs.length + 1) cap 9 - (xs.length + 1))) 9)).cell? ⟨w.heap.size, 0 + j, none⟩ = (xs.toArray ++ [x].toArray ++ Builtin.zeroCells (Value.string ⟨#[]⟩).cells (grownCap w (xs.length + 1) cap 9 - (xs.length + 1)))[j]? := fun j => by
      rw [Nat.zero_add]
      exact World.cell?_alloc_at (w := w.drew) _ 9 w.heap.size j rfl
    refine ⟨w.heap.size, 0, _, by simp, hbase, by simp, by simpa using hge, hcm, fun j u hu => ?_, fun j hj => ⟨?_, ?_⟩⟩
    · rw [hcl, Array.getElem?_append_left (by have := (List.getElem?_eq_some_iff.1 hu).1; simpa using this)]
      simpa using hu
    · rw [hcl, Array.getElem?_eq_getElem (by rw [harr]; exact hj)]
      rfl
    · go_simp

theorem pop_queue {w : World} {base : Nat} {x : Value} {r : List Value} {g off cap : Nat} (h : Queue w base (.slice (some ⟨g, off, none⟩) (x :: r).length cap) (x :: r)) :
    1 ≤ cap ∧ (cap = 1 → Queue w base (.slice (some ⟨g, off, none⟩) r.length 0) r) ∧ (cap ≠ 1 → Queue w base (.slice (some ⟨g, off + 1, none⟩) r.length (cap - 1)) r) := by
  obtain ⟨g', off', cap', he, h1, h2, h3, h4, h5, h6⟩ := h
  simp at he
  obtain ⟨⟨rfl, rfl⟩, rfl⟩ := he
  simp only [List.length_cons] at h3
  refine ⟨by omega, fun hc => ?_, fun hc => ?_⟩
  · have hr : r = [] := List.eq_nil_of_length_eq_zero (by omega)
    subst hr
    exact ⟨g, off, 0, rfl, h1, h2, Nat.le_refl _, Nat.zero_le _, fun j u hu => by simp at hu, fun j hj => by omega⟩
  · refine ⟨g, off + 1, cap - 1, rfl, h1, h2, by omega, by omega, fun j u hu => ?_, fun j hj => ?_⟩
    · have := h5 (j + 1) u (by simpa using hu)
      rw [show off + 1 + j = off + (j + 1) by omega]
      exact this
    · have := h6 (j + 1) (by omega)
      rw [show off + 1 + j = off + (j + 1) by omega]
      exact this

end Go.Proofs.Qxb6609015a
